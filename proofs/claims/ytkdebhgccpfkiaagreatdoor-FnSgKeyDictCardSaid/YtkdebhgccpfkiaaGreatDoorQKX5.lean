import Derived.Test.YtkdebhgccpfkiaaGreatDoorQKX1
import Derived.Test.YtkdebhgccpfkiaaGreatDoorQKX4
import Derived.Test.YtkdebhgccpfkiaaGreatDoorQKX2
set_option maxRecDepth 100000
set_option maxHeartbeats 16000000
namespace Go.Proofs.YtkdebhgccpfkiaaGreatDoor.au
open Go.RowKit Go.Proofs.aa.az Go.Proofs.aa.aM Go.Proofs.aa.aU
attribute [local go_sem] ba bh
set_option linter.unusedVariables false
set_option linter.unusedSimpArgs false
mutual
def ar.j0 : Nat → ByteArray → Int → Int → Int → Bool → Option (Int)
 | 0,_,_,_,_,_ => none
 | k + 1,x0,x1,x2,x3,Kg => if Kg = true then (some 0) else (if 0 < (x0.size : Int) then ((dC.f (bt x0 0)).bind fun t112 => (if t112 = true then (ar.j1 k x0 x1 x2 x3 true) else (ar.j1 k x0 x1 x2 x3 ((bt x0 0) == 118)))) else (none))
def ar.j1 : Nat → ByteArray → Int → Int → Int → Bool → Option (Int)
 | 0,_,_,_,_,_ => none
 | k + 1,x0,x1,x2,x3,Ay => if Ay = true then (some 1) else (if 0 < (x0.size : Int) then (if (bt x0 0) = 97 then (if (x0.size : Int) > 1 then (if 1 < (x0.size : Int) then (ar.j2 k x0 x1 x2 x3 ((bt x0 1) == 123)) else (none)) else (ar.j2 k x0 x1 x2 x3 false)) else (ar.j2 k x0 x1 x2 x3 false)) else (none))
def ar.j2 : Nat → ByteArray → Int → Int → Int → Bool → Option (Int)
 | 0,_,_,_,_,_ => none
 | k + 1,x0,x1,x2,x3,SQ => if SQ = true then (if (x0.size : Int) < 4 then (ar.j3 k x0 x1 x2 x3 true) else (if 2 < (x0.size : Int) then ((dC.f (bt x0 2)).bind fun t113 => (ar.j3 k x0 x1 x2 x3 (!t113))) else (none))) else (if 0 < (x0.size : Int) then (if (bt x0 0) = 97 then (if 1 ≤ (x0.size : Int) then ((ar.f k (x0.extract 1 x0.size) (wrap64 (x1 - 1)) x2 x3).bind fun t115 => (if t115 > 0 then (some (wrap64 (t115 + 1))) else (some 0))) else (none)) else (if (bt x0 0) = 40 then (ar.l0 k x0 x1 x2 x3 1) else (some 0))) else (none))
def ar.j3 : Nat → ByteArray → Int → Int → Int → Bool → Option (Int)
 | 0,_,_,_,_,_ => none
 | k + 1,x0,x1,x2,x3,x58 => if x58 = true then (some 0) else (if 3 ≤ (x0.size : Int) then ((ar.f k (x0.extract 3 x0.size) (wrap64 (x1 - 1)) x2 (wrap64 (x3 - 1))).bind fun t114 => (if t114 = 0 then (some 0) else (if (x0.size : Int) < (wrap64 (t114 + 4)) then (some 0) else (if 0 ≤ (wrap64 (t114 + 3)) then (if (wrap64 (t114 + 3)) < (x0.size : Int) then (if (bt x0 (wrap64 (t114 + 3))) = 125 then (some (wrap64 (t114 + 4))) else (some 0)) else (none)) else (none))))) else (none))
def ar.l0 : Nat → ByteArray → Int → Int → Int → Int → Option (Int)
 | 0,_,_,_,_,_ => none
 | k + 1,x0,x1,x2,x3,y5 => if y5 < (x0.size : Int) then (if 0 ≤ y5 then (ar.j5 k x0 x1 x2 x3 y5 ((bt x0 y5) != 41)) else (none)) else (ar.j5 k x0 x1 x2 x3 y5 false)
def ar.j5 : Nat → ByteArray → Int → Int → Int → Int → Bool → Option (Int)
 | 0,_,_,_,_,_,_ => none
 | k + 1,x0,x1,x2,x3,y5,ad2 => if ad2 = true then (if 0 ≤ y5 then (if y5 ≤ (x0.size : Int) then ((ar.f k (x0.extract (y5 : Int).toNat x0.size) x1 (wrap64 (x2 - 1)) x3).bind fun t116 => (if t116 = 0 then (some 0) else (ar.l0 k x0 x1 x2 x3 (wrap64 (y5 + t116))))) else (none)) else (none)) else (if y5 > 1 then (if y5 < (x0.size : Int) then (some (wrap64 (y5 + 1))) else (some 0)) else (some 0))
def ar.f : Nat → ByteArray → Int → Int → Int → Option (Int)
 | 0,_,_,_,_ => none
 | k + 1,a0,a1,a2,a3 => if a0.toList = ([] : List UInt8) then (ar.j0 k a0 a1 a2 a3 true) else (if a1 < 0 then (ar.j0 k a0 a1 a2 a3 true) else (if a2 < 0 then (ar.j0 k a0 a1 a2 a3 true) else (ar.j0 k a0 a1 a2 a3 (decide (a3 < 0)))))
end
theorem ar.calls (k : Nat) : ∀ (a0 : ByteArray) (a1 : Int) (a2 : Int) (a3 : Int) (r : Int) (w : World) (h : ar.f k a0 a1 a2 a3 = some r),
  Calls Tryz.prog 56 #[.string a0,.int .i64 a1,.int .i64 a2,.int .i64 a3] w fun e w' => e = .returned (.int .i64 r) ∧ ah w w' := by
 induction k using Nat.strongRecOn with
 | _ k ih=>
 intro a0 a1 a2 a3 r w h
 cases k with
 | zero => exact absurd h (by simp [ar.f])
 | succ k=>
 simp only [ar.f] at h
 have H : (if a0.toList = ([] : List UInt8) then (ar.j0 k a0 a1 a2 a3 true) else (if a1 < 0 then (ar.j0 k a0 a1 a2 a3 true) else (if a2 < 0 then (ar.j0 k a0 a1 a2 a3 true) else (ar.j0 k a0 a1 a2 a3 (decide (a3 < 0)))))) = some r := h
 clear h
 have PK := U.mk H
 clear H
 go_enter Tryz.func56,Tryz.ntmps56
 go_upto_region 1 with (fail)
 go_cut [26] (fun Yb wc => ∃ (kq : Nat) (G8 : Bool),Yb = .bool G8 ∧ U (ar.j0 kq a0 a1 a2 a3 G8 = some r) ∧ U (kq ≤ k) ∧ ah w wc)
 case first=>
  have H := PK.out
  clear PK
  by_cases c6 : a0.toList = ([] : List UInt8)
  ·rw [if_pos c6] at H
   have eg : (a0.toList == ([] : List UInt8)) = true := beq_iff_eq.mpr c6
   have fR : (a0.toList != ([] : List UInt8)) = false := bne_eq_false_iff_eq.mpr c6
   clear c6
   (first | rw [eg] | (simp only [cL,dr]; rw [eg]) | skip)
   have H' := U.mk H
   clear H
   go_wp2
   go_meet
   case rel => exact ⟨_,(true),(by first | rfl | (simp; done) | (simp [*]; done)),H', ⟨by first | omega | exact Nat.le_refl _⟩,by repeat (first | exact ah.refl _ | apply ah.step)⟩
  ·rw [if_neg c6] at H
   have eg : (a0.toList == ([] : List UInt8)) = false := beq_eq_false_iff_ne.mpr c6
   have fR : (a0.toList != ([] : List UInt8)) = true := bne_iff_ne.mpr c6
   (first | rw [eg] | (simp only [cL,dr]; rw [eg]) | skip)
   by_cases c7 : a1 < 0
   ·rw [if_pos c7] at H
    have dn : decide (a1 < 0) = true := decide_eq_true c7
    clear c7
    have H' := U.mk H
    clear H
    go_wp2
    go_meet
    case rel => exact ⟨_,(true),(by first | rfl | (simp; done) | (simp [*]; done)),H', ⟨by first | omega | exact Nat.le_refl _⟩,by repeat (first | exact ah.refl _ | apply ah.step)⟩
   ·rw [if_neg c7] at H
    have dn : decide (a1 < 0) = false := decide_eq_false c7
    clear c7
    by_cases c8 : a2 < 0
    ·rw [if_pos c8] at H
     have eD : decide (a2 < 0) = true := decide_eq_true c8
     clear c8
     have H' := U.mk H
     clear H
     go_wp2
     go_meet
     case rel => exact ⟨_,(true),(by first | rfl | (simp; done) | (simp [*]; done)),H', ⟨by first | omega | exact Nat.le_refl _⟩,by repeat (first | exact ah.refl _ | apply ah.step)⟩
    ·rw [if_neg c8] at H
     have eD : decide (a2 < 0) = false := decide_eq_false c8
     clear c8
     have H' := U.mk H
     clear H
     go_wp2
     go_meet
     case rel => exact ⟨_,(decide (a3 < 0)),(by first | rfl | (simp; done) | (simp [*]; done)),H', ⟨by first | omega | exact Nat.le_refl _⟩,by repeat (first | exact ah.refl _ | apply ah.step)⟩
 case rest=>
  clear PK
  try clear p2
  try clear c5
  try clear c6
  try clear eg
  try clear fR
  try clear c7
  try clear dn
  try clear c8
  try clear eD
  obtain ⟨kq,G8,rfl,HA,ke,⟨mc4,rfl⟩⟩ := hcut
  cases kq with
  | zero => exact absurd HA.out (by simp [ar.j0])
  | succ IL=>
   have H := HA.out
   clear HA
   simp only [ar.j0] at H
   by_cases c9 : G8 = true
   ·subst c9
    have H1 : (some 0) = some r := by rw [if_pos rfl] at H; exact H
    clear H
    have H := H1
    clear H1
    obtain rfl := Option.some.inj H
    go_wp2
    go_ret
    exact ⟨by first | rfl | (simp; done) | (simp [*]; done),by repeat (first | exact ah.refl _ | apply ah.step)⟩
   ·replace c9 := Bool.eq_false_iff.mpr c9
    subst c9
    have H1 : (if 0 < (a0.size : Int) then ((dC.f (bt a0 0)).bind fun t112 => (if t112 = true then (ar.j1 IL a0 a1 a2 a3 true) else (ar.j1 IL a0 a1 a2 a3 ((bt a0 0) == 118)))) else (none)) = some r := by rw [if_neg (show ¬ (false = true) by decide)] at H; exact H
    clear H
    have H := H1
    clear H1
    have SK := U.mk H
    clear H
    go_upto_region 3 with (fail)
    go_cut [27] (fun H7 wc => ∃ (kq : Nat) (G6 : Bool),H7 = .bool G6 ∧ U (ar.j1 kq a0 a1 a2 a3 G6 = some r) ∧ U (kq ≤ IL) ∧ ah w wc)
    case first=>
     have H := SK.out
     clear SK
     by_cases bE : 0 < (a0.size : Int)
     ·rw [if_pos bE] at H
      have dJ : decide (0 < (a0.size : Int)) = true := decide_eq_true bE
      have eS : decide (0 < a0.size) = true := decide_eq_true (by omega)
      clear bE
      (first | rw [dJ] | (simp only [cL,dr]; rw [dJ]) | skip)
      replace H := Option.bind_eq_some_iff.mp H
      obtain ⟨t112,acn,H⟩ := H
      replace H : (if t112 = true then (ar.j1 IL a0 a1 a2 a3 true) else (ar.j1 IL a0 a1 a2 a3 ((bt a0 0) == 118))) = some r := H
      have A13 := U.mk acn
      clear acn
      by_cases cS : t112 = true
      ·subst cS
       have H1 : (ar.j1 IL a0 a1 a2 a3 true) = some r := by rw [if_pos rfl] at H; exact H
       clear H
       have H := H1
       clear H1
       have H' := U.mk H
       clear H
       have zA : 0 ≤ (0 : Int) := (by omega)
       have vo : 0 < a0.size := (by have : (0 : Int) < (a0.size : Int) := of_decide_eq_true (by first | (with_reducible assumption) | assumption); omega)
       have FR : ∀ h : 0 < a0.size,((a0[0]'h).toNat : Int) = bt a0 0 := bq a0 0
       clear zA
       have Fx : (0 < (a0.size : Int)) = True := eq_true (of_decide_eq_true (by first | (with_reducible assumption) | assumption))
       replace vo := eq_true vo
       go_wp2_with (first | ((with_reducible refine aW (f := 7) rfl ?_); refine bK (some 30) rfl rfl Tryz.func7 (by kernel_rfl) rfl #[.int .u8 (bt a0 0)] rfl (by (try simp only [List.map_toArray,List.map_cons,List.map_nil]); first | done | rfl | (simp only [List.length_drop,List.length_take]; rfl)) ?_; (with_reducible refine (dC.calls (bt a0 0) true _ A13.out).mono ?_); rintro e w' ⟨rfl,⟨nd,rfl⟩⟩; refine ⟨_,rfl,?_⟩))
       go_meet
       case rel => exact ⟨_,(true),(by first | rfl | (simp; done) | (simp [*]; done)),H', ⟨by have := ke.out; first | omega | exact Nat.le_refl _⟩,by repeat (first | exact ah.refl _ | apply ah.step)⟩
      ·replace cS := Bool.eq_false_iff.mpr cS
       subst cS
       have H1 : (ar.j1 IL a0 a1 a2 a3 ((bt a0 0) == 118)) = some r := by rw [if_neg (show ¬ (false = true) by decide)] at H; exact H
       clear H
       have H := H1
       clear H1
       have H' := U.mk H
       clear H
       have zA : 0 ≤ (0 : Int) := (by omega)
       have vo : 0 < a0.size := (by have : (0 : Int) < (a0.size : Int) := of_decide_eq_true (by first | (with_reducible assumption) | assumption); omega)
       have FR : ∀ h : 0 < a0.size,((a0[0]'h).toNat : Int) = bt a0 0 := bq a0 0
       clear zA
       have Fx : (0 < (a0.size : Int)) = True := eq_true (of_decide_eq_true (by first | (with_reducible assumption) | assumption))
       replace vo := eq_true vo
       go_wp2_with (first | ((with_reducible refine aW (f := 7) rfl ?_); refine bK (some 30) rfl rfl Tryz.func7 (by kernel_rfl) rfl #[.int .u8 (bt a0 0)] rfl (by (try simp only [List.map_toArray,List.map_cons,List.map_nil]); first | done | rfl | (simp only [List.length_drop,List.length_take]; rfl)) ?_; (with_reducible refine (dC.calls (bt a0 0) false _ A13.out).mono ?_); rintro e w' ⟨rfl,⟨nd,rfl⟩⟩; refine ⟨_,rfl,?_⟩; have iV : 0 ≤ (0 : Int) := (by omega); have iF : 0 < a0.size := (by have : (0 : Int) < (a0.size : Int) := of_decide_eq_true (by first | (with_reducible assumption) | assumption); omega); have vw : ∀ h : 0 < a0.size,((a0[0]'h).toNat : Int) = bt a0 0 := bq a0 0; clear iV; have Dw : (0 < (a0.size : Int)) = True := eq_true (of_decide_eq_true (by first | (with_reducible assumption) | assumption)); replace iF := eq_true iF))
       go_meet
       case rel => exact ⟨_,(((bt a0 0) == 118)),(by first | rfl | (simp; done) | (simp [*]; done)),H', ⟨by have := ke.out; first | omega | exact Nat.le_refl _⟩,by repeat (first | exact ah.refl _ | apply ah.step)⟩
     ·rw [if_neg bE] at H
      exact absurd H (by simp)
    case rest=>
     clear SK
     try clear c1
     try clear p1
     try clear q1
     try clear jy
     try clear S3
     try clear p2
     try clear c4
     try clear c5
     try clear c6
     try clear eg
     try clear fR
     try clear c7
     try clear dn
     try clear c8
     try clear eD
     try clear c9
     try clear bE
     try clear dJ
     try clear eS
     try clear zA
     try clear vo
     try clear FR
     try clear Fx
     try clear cS
     try clear iV
     try clear iF
     try clear vw
     try clear Dw
     try clear zA
     try clear iV
     try clear p2
     try clear vo
     try clear iF
     obtain ⟨kq,G6,rfl,HA,k7,⟨mc9,rfl⟩⟩ := hcut
     cases kq with
     | zero => exact absurd HA.out (by simp [ar.j1])
     | succ Tb=>
      have H := HA.out
      clear HA
      simp only [ar.j1] at H
      by_cases eM : G6 = true
      ·subst eM
       have H1 : (some 1) = some r := by rw [if_pos rfl] at H; exact H
       clear H
       have H := H1
       clear H1
       obtain rfl := Option.some.inj H
       go_wp2
       go_ret
       exact ⟨by first | rfl | (simp; done) | (simp [*]; done),by repeat (first | exact ah.refl _ | apply ah.step)⟩
      ·replace eM := Bool.eq_false_iff.mpr eM
       subst eM
       have H1 : (if 0 < (a0.size : Int) then (if (bt a0 0) = 97 then (if (a0.size : Int) > 1 then (if 1 < (a0.size : Int) then (ar.j2 Tb a0 a1 a2 a3 ((bt a0 1) == 123)) else (none)) else (ar.j2 Tb a0 a1 a2 a3 false)) else (ar.j2 Tb a0 a1 a2 a3 false)) else (none)) = some r := by rw [if_neg (show ¬ (false = true) by decide)] at H; exact H
       clear H
       have H := H1
       clear H1
       have SH := U.mk H
       clear H
       go_upto_region 5 with (fail)
       go_cut [36] (fun v36 wc => ∃ (kq : Nat) (DO : Bool),v36 = .bool DO ∧ U (ar.j2 kq a0 a1 a2 a3 DO = some r) ∧ U (kq ≤ Tb) ∧ ah w wc)
       case first=>
        have H := SH.out
        clear SH
        by_cases fk : 0 < (a0.size : Int)
        ·rw [if_pos fk] at H
         have iN : decide (0 < (a0.size : Int)) = true := decide_eq_true fk
         have lJ : decide (0 < a0.size) = true := decide_eq_true (by omega)
         clear fk
         (first | rw [iN] | (simp only [cL,dr]; rw [iN]) | skip)
         by_cases fN : (bt a0 0) = 97
         ·rw [if_pos fN] at H
          have kF : ((bt a0 0) == 97) = true := beq_iff_eq.mpr fN
          have Cs : ((bt a0 0) != 97) = false := bne_eq_false_iff_eq.mpr fN
          clear fN
          by_cases eL : (a0.size : Int) > 1
          ·rw [if_pos eL] at H
           have gb : decide (1 < (a0.size : Int)) = true := decide_eq_true eL
           have iM : decide (1 < a0.size) = true := decide_eq_true (by omega)
           clear eL
           by_cases fe : 1 < (a0.size : Int)
           ·rw [if_pos fe] at H
            have j' : decide (1 < (a0.size : Int)) = true := decide_eq_true fe
            have j9 : decide (1 < a0.size) = true := decide_eq_true (by omega)
            clear fe
            have H' := U.mk H
            clear H
            have zy : 0 ≤ (0 : Int) := (by omega)
            have lx : 0 < a0.size := (by have : (0 : Int) < (a0.size : Int) := of_decide_eq_true (by first | (with_reducible assumption) | assumption); omega)
            have FP : ∀ h : 0 < a0.size,((a0[0]'h).toNat : Int) = bt a0 0 := bq a0 0
            clear zy
            have Fw : (0 < (a0.size : Int)) = True := eq_true (of_decide_eq_true (by first | (with_reducible assumption) | assumption))
            replace lx := eq_true lx
            have vp : 0 ≤ (1 : Int) := (by omega)
            have lq : 1 < a0.size := (by have : (1 : Int) < (a0.size : Int) := of_decide_eq_true (by first | (with_reducible assumption) | assumption); omega)
            have FI : ∀ h : 1 < a0.size,((a0[1]'h).toNat : Int) = bt a0 1 := bq a0 1
            clear vp
            have LP : (1 < (a0.size : Int)) = True := eq_true (of_decide_eq_true (by first | (with_reducible assumption) | assumption))
            replace lq := eq_true lq
            go_wp2
            go_meet
            case rel => exact ⟨_,(((bt a0 1) == 123)),(by first | rfl | (simp; done) | (simp [*]; done)),H', ⟨by have := ke.out; have := k7.out; first | omega | exact Nat.le_refl _⟩,by repeat (first | exact ah.refl _ | apply ah.step)⟩
           ·rw [if_neg fe] at H
            exact absurd H (by simp)
          ·rw [if_neg eL] at H
           have gb : decide (1 < (a0.size : Int)) = false := decide_eq_false eL
           have iM : decide (1 < a0.size) = false := decide_eq_false (by omega)
           clear eL
           have H' := U.mk H
           clear H
           have zy : 0 ≤ (0 : Int) := (by omega)
           have lx : 0 < a0.size := (by have : (0 : Int) < (a0.size : Int) := of_decide_eq_true (by first | (with_reducible assumption) | assumption); omega)
           have FP : ∀ h : 0 < a0.size,((a0[0]'h).toNat : Int) = bt a0 0 := bq a0 0
           clear zy
           have Fw : (0 < (a0.size : Int)) = True := eq_true (of_decide_eq_true (by first | (with_reducible assumption) | assumption))
           replace lx := eq_true lx
           go_wp2
           go_meet
           case rel => exact ⟨_,(false),(by first | rfl | (simp; done) | (simp [*]; done)),H', ⟨by have := ke.out; have := k7.out; first | omega | exact Nat.le_refl _⟩,by repeat (first | exact ah.refl _ | apply ah.step)⟩
         ·rw [if_neg fN] at H
          have kF : ((bt a0 0) == 97) = false := beq_eq_false_iff_ne.mpr fN
          have Cs : ((bt a0 0) != 97) = true := bne_iff_ne.mpr fN
          have H' := U.mk H
          clear H
          have zy : 0 ≤ (0 : Int) := (by omega)
          have lx : 0 < a0.size := (by have : (0 : Int) < (a0.size : Int) := of_decide_eq_true (by first | (with_reducible assumption) | assumption); omega)
          have FP : ∀ h : 0 < a0.size,((a0[0]'h).toNat : Int) = bt a0 0 := bq a0 0
          clear zy
          have Fw : (0 < (a0.size : Int)) = True := eq_true (of_decide_eq_true (by first | (with_reducible assumption) | assumption))
          replace lx := eq_true lx
          go_wp2
          go_meet
          case rel => exact ⟨_,(false),(by first | rfl | (simp; done) | (simp [*]; done)),H', ⟨by have := ke.out; have := k7.out; first | omega | exact Nat.le_refl _⟩,by repeat (first | exact ah.refl _ | apply ah.step)⟩
        ·rw [if_neg fk] at H
         exact absurd H (by simp)
       case rest=>
        clear SH
        try clear c1
        try clear p1
        try clear q1
        try clear jy
        try clear S3
        try clear c2
        try clear p2
        try clear q2
        try clear xw
        try clear Ys
        try clear c4
        try clear c5
        try clear c6
        try clear eg
        try clear fR
        try clear c7
        try clear dn
        try clear c8
        try clear eD
        try clear c9
        try clear bE
        try clear dJ
        try clear eS
        try clear zA
        try clear vo
        try clear FR
        try clear Fx
        try clear cS
        try clear iV
        try clear iF
        try clear vw
        try clear Dw
        try clear eM
        try clear fk
        try clear iN
        try clear lJ
        try clear zy
        try clear lx
        try clear FP
        try clear Fw
        try clear fN
        try clear kF
        try clear Cs
        try clear eL
        try clear gb
        try clear iM
        try clear fe
        try clear j'
        try clear j9
        try clear vp
        try clear lq
        try clear FI
        try clear LP
        try clear p1
        try clear zA
        try clear iV
        try clear zy
        try clear p2
        try clear vp
        try clear q1
        try clear vo
        try clear iF
        try clear lx
        try clear lq
        obtain ⟨kq,DO,rfl,HA,kg,⟨ahR,rfl⟩⟩ := hcut
        cases kq with
        | zero => exact absurd HA.out (by simp [ar.j2])
        | succ yN=>
         have H := HA.out
         clear HA
         simp only [ar.j2] at H
         by_cases gW : DO = true
         ·subst gW
          have H1 : (if (a0.size : Int) < 4 then (ar.j3 yN a0 a1 a2 a3 true) else (if 2 < (a0.size : Int) then ((dC.f (bt a0 2)).bind fun t113 => (ar.j3 yN a0 a1 a2 a3 (!t113))) else (none))) = some r := by rw [if_pos rfl] at H; exact H
          clear H
          have H := H1
          clear H1
          have SE := U.mk H
          clear H
          go_upto_region 6 with (fail)
          go_cut [58] (fun v58 wc => ∃ (kq : Nat) (DN : Bool),v58 = .bool DN ∧ U (ar.j3 kq a0 a1 a2 a3 DN = some r) ∧ U (kq ≤ yN) ∧ ah w wc)
          case first=>
           have H := SE.out
           clear SE
           by_cases kV : (a0.size : Int) < 4
           ·rw [if_pos kV] at H
            have kE : decide ((a0.size : Int) < 4) = true := decide_eq_true kV
            have Cr : decide (a0.size < 4) = true := decide_eq_true (by omega)
            clear kV
            (first | rw [kE] | (simp only [cL,dr]; rw [kE]) | skip)
            have H' := U.mk H
            clear H
            go_wp2
            go_meet
            case rel => exact ⟨_,(true),(by first | rfl | (simp; done) | (simp [*]; done)),H', ⟨by have := ke.out; have := k7.out; have := kg.out; first | omega | exact Nat.le_refl _⟩,by repeat (first | exact ah.refl _ | apply ah.step)⟩
           ·rw [if_neg kV] at H
            have kE : decide ((a0.size : Int) < 4) = false := decide_eq_false kV
            have Cr : decide (a0.size < 4) = false := decide_eq_false (by omega)
            clear kV
            (first | rw [kE] | (simp only [cL,dr]; rw [kE]) | skip)
            by_cases JM : 2 < (a0.size : Int)
            ·rw [if_pos JM] at H
             have Mo : decide (2 < (a0.size : Int)) = true := decide_eq_true JM
             have Mn : decide (2 < a0.size) = true := decide_eq_true (by omega)
             clear JM
             replace H := Option.bind_eq_some_iff.mp H
             obtain ⟨t113,ace,H⟩ := H
             replace H : (ar.j3 yN a0 a1 a2 a3 (!t113)) = some r := H
             have A29 := U.mk ace
             clear ace
             have H' := U.mk H
             clear H
             have Iq : 0 ≤ (2 : Int) := (by omega)
             have Gg : 2 < a0.size := (by have : (2 : Int) < (a0.size : Int) := of_decide_eq_true (by first | (with_reducible assumption) | assumption); omega)
             have QU : ∀ h : 2 < a0.size,((a0[2]'h).toNat : Int) = bt a0 2 := bq a0 2
             clear Iq
             have Qe : (2 < (a0.size : Int)) = True := eq_true (of_decide_eq_true (by first | (with_reducible assumption) | assumption))
             replace Gg := eq_true Gg
             go_wp2_with (first | (go_at_call 7; (with_reducible refine (dC.calls (bt a0 2) t113 _ A29.out).mono ?_); rintro e w' ⟨rfl,⟨nd,rfl⟩⟩))
             go_meet
             case rel => exact ⟨_,(!t113),(by first | rfl | (simp; done) | (simp [*]; done)),H', ⟨by have := ke.out; have := k7.out; have := kg.out; first | omega | exact Nat.le_refl _⟩,by repeat (first | exact ah.refl _ | apply ah.step)⟩
            ·rw [if_neg JM] at H
             exact absurd H (by simp)
          case rest=>
           clear SE
           try clear c1
           try clear p1
           try clear q1
           try clear jy
           try clear S3
           try clear c2
           try clear p2
           try clear q2
           try clear xw
           try clear Ys
           try clear c4
           try clear c5
           try clear c6
           try clear eg
           try clear fR
           try clear c7
           try clear dn
           try clear c8
           try clear eD
           try clear c9
           try clear bE
           try clear dJ
           try clear eS
           try clear zA
           try clear vo
           try clear FR
           try clear Fx
           try clear cS
           try clear iV
           try clear iF
           try clear vw
           try clear Dw
           try clear eM
           try clear fk
           try clear iN
           try clear lJ
           try clear zy
           try clear lx
           try clear FP
           try clear Fw
           try clear fN
           try clear kF
           try clear Cs
           try clear eL
           try clear gb
           try clear iM
           try clear fe
           try clear j'
           try clear j9
           try clear vp
           try clear lq
           try clear FI
           try clear LP
           try clear gW
           try clear kV
           try clear kE
           try clear Cr
           try clear JM
           try clear Mo
           try clear Mn
           try clear Iq
           try clear Gg
           try clear QU
           try clear Qe
           try clear p1
           try clear zA
           try clear iV
           try clear zy
           try clear p2
           try clear vp
           try clear Iq
           try clear q1
           try clear vo
           try clear iF
           try clear lx
           try clear q2
           try clear lq
           try clear Gg
           obtain ⟨kq,DN,rfl,HA,MB,⟨ahO,rfl⟩⟩ := hcut
           cases kq with
           | zero => exact absurd HA.out (by simp [ar.j3])
           | succ IM=>
            have H := HA.out
            clear HA
            simp only [ar.j3] at H
            by_cases Lw : DN = true
            ·subst Lw
             have H1 : (some 0) = some r := by rw [if_pos rfl] at H; exact H
             clear H
             have H := H1
             clear H1
             obtain rfl := Option.some.inj H
             go_wp2
             go_ret
             exact ⟨by first | rfl | (simp; done) | (simp [*]; done),by repeat (first | exact ah.refl _ | apply ah.step)⟩
            ·replace Lw := Bool.eq_false_iff.mpr Lw
             subst Lw
             have H1 : (if 3 ≤ (a0.size : Int) then ((ar.f IM (a0.extract 3 a0.size) (wrap64 (a1 - 1)) a2 (wrap64 (a3 - 1))).bind fun t114 => (if t114 = 0 then (some 0) else (if (a0.size : Int) < (wrap64 (t114 + 4)) then (some 0) else (if 0 ≤ (wrap64 (t114 + 3)) then (if (wrap64 (t114 + 3)) < (a0.size : Int) then (if (bt a0 (wrap64 (t114 + 3))) = 125 then (some (wrap64 (t114 + 4))) else (some 0)) else (none)) else (none))))) else (none)) = some r := by rw [if_neg (show ¬ (false = true) by decide)] at H; exact H
             clear H
             have H := H1
             clear H1
             by_cases JL : 3 ≤ (a0.size : Int)
             ·rw [if_pos JL] at H
              have TR := eq_true JL
              have TQ : decide (3 ≤ (a0.size : Int)) = true := decide_eq_true JL
              clear JL
              replace H := Option.bind_eq_some_iff.mp H
              obtain ⟨t114,acd,H⟩ := H
              replace H : (if t114 = 0 then (some 0) else (if (a0.size : Int) < (wrap64 (t114 + 4)) then (some 0) else (if 0 ≤ (wrap64 (t114 + 3)) then (if (wrap64 (t114 + 3)) < (a0.size : Int) then (if (bt a0 (wrap64 (t114 + 3))) = 125 then (some (wrap64 (t114 + 4))) else (some 0)) else (none)) else (none)))) = some r := H
              have PT := U.mk acd
              clear acd
              by_cases EK : t114 = 0
              ·rw [if_pos EK] at H
               have Mm : (t114 == 0) = true := beq_iff_eq.mpr EK
               have Ml : (t114 != 0) = false := bne_eq_false_iff_eq.mpr EK
               clear EK
               obtain rfl := Option.some.inj H
               go_wp2_with (first | ((with_reducible refine aW (f := 56) rfl ?_); refine bK (some 66) rfl rfl Tryz.func56 (by kernel_rfl) rfl #[.string (a0.extract 3 a0.size),.int .i64 (wrap64 (a1 - 1)),.int .i64 a2,.int .i64 (wrap64 (a3 - 1))] rfl (by (try simp only [List.map_toArray,List.map_cons,List.map_nil]); first | done | rfl | (simp only [List.length_drop,List.length_take]; rfl)) ?_; (with_reducible refine (ih IM (by have := ke.out; have := k7.out; have := kg.out; have := MB.out; omega) (a0.extract 3 a0.size) (wrap64 (a1 - 1)) a2 (wrap64 (a3 - 1)) t114 _ PT.out).mono ?_); rintro e w' ⟨rfl,⟨nd,rfl⟩⟩; refine ⟨_,rfl,?_⟩))
               go_ret
               exact ⟨by first | rfl | (simp; done) | (simp [*]; done),by repeat (first | exact ah.refl _ | apply ah.step)⟩
              ·rw [if_neg EK] at H
               have Mm : (t114 == 0) = false := beq_eq_false_iff_ne.mpr EK
               have Ml : (t114 != 0) = true := bne_iff_ne.mpr EK
               by_cases GP : (a0.size : Int) < (wrap64 (t114 + 4))
               ·rw [if_pos GP] at H
                have Mk : decide ((a0.size : Int) < (wrap64 (t114 + 4))) = true := decide_eq_true GP
                clear GP
                obtain rfl := Option.some.inj H
                go_wp2_with (first | ((with_reducible refine aW (f := 56) rfl ?_); refine bK (some 66) rfl rfl Tryz.func56 (by kernel_rfl) rfl #[.string (a0.extract 3 a0.size),.int .i64 (wrap64 (a1 - 1)),.int .i64 a2,.int .i64 (wrap64 (a3 - 1))] rfl (by (try simp only [List.map_toArray,List.map_cons,List.map_nil]); first | done | rfl | (simp only [List.length_drop,List.length_take]; rfl)) ?_; (with_reducible refine (ih IM (by have := ke.out; have := k7.out; have := kg.out; have := MB.out; omega) (a0.extract 3 a0.size) (wrap64 (a1 - 1)) a2 (wrap64 (a3 - 1)) t114 _ PT.out).mono ?_); rintro e w' ⟨rfl,⟨nd,rfl⟩⟩; refine ⟨_,rfl,?_⟩))
                go_ret
                exact ⟨by first | rfl | (simp; done) | (simp [*]; done),by repeat (first | exact ah.refl _ | apply ah.step)⟩
               ·rw [if_neg GP] at H
                have Mk : decide ((a0.size : Int) < (wrap64 (t114 + 4))) = false := decide_eq_false GP
                clear GP
                obtain ⟨hU,Ci⟩ : ∃ j_ : Int,(wrap64 (t114 + 3)) = j_ := ⟨_,rfl⟩
                replace H : (if 0 ≤ (hU) then (if (hU) < (a0.size : Int) then (if (bt a0 (hU)) = 125 then (some (wrap64 (t114 + 4))) else (some 0)) else (none)) else (none)) = some r := by first | (rw [Ci] at H; exact H) | (simp only [Ci] at H ⊢; exact H)
                (try rw [Ci] at PT)
                have agC : (IntKind.i64.wrap (t114 + 3)) = hU := (cL _).trans Ci
                by_cases Lv : 0 ≤ (hU)
                ·rw [if_pos Lv] at H
                 have TP : decide (0 ≤ (hU)) = true := decide_eq_true Lv
                 clear Lv
                 by_cases Lu : (hU) < (a0.size : Int)
                 ·rw [if_pos Lu] at H
                  have TO : decide ((hU) < (a0.size : Int)) = true := decide_eq_true Lu
                  clear Lu
                  by_cases EJ : (bt a0 (hU)) = 125
                  ·rw [if_pos EJ] at H
                   have Mj : ((bt a0 (hU)) == 125) = true := beq_iff_eq.mpr EJ
                   have Mi : ((bt a0 (hU)) != 125) = false := bne_eq_false_iff_eq.mpr EJ
                   clear EJ
                   obtain rfl := Option.some.inj H
                   go_wp2_with (first | ((with_reducible refine aW (f := 56) rfl ?_); refine bK (some 66) rfl rfl Tryz.func56 (by kernel_rfl) rfl #[.string (a0.extract 3 a0.size),.int .i64 (wrap64 (a1 - 1)),.int .i64 a2,.int .i64 (wrap64 (a3 - 1))] rfl (by (try simp only [List.map_toArray,List.map_cons,List.map_nil]); first | done | rfl | (simp only [List.length_drop,List.length_take]; rfl)) ?_; (with_reducible refine (ih IM (by have := ke.out; have := k7.out; have := kg.out; have := MB.out; omega) (a0.extract 3 a0.size) (wrap64 (a1 - 1)) a2 (wrap64 (a3 - 1)) t114 _ PT.out).mono ?_); rintro e w' ⟨rfl,⟨nd,rfl⟩⟩; refine ⟨_,rfl,?_⟩; have D7 : 0 ≤ ((hU) : Int) := of_decide_eq_true (by first | (with_reducible assumption) | assumption); have D3 : (hU) < (a0.size : Int) := of_decide_eq_true (by first | (with_reducible assumption) | assumption); have QT := bq a0 (hU); replace D7 := eq_true D7; replace D3 := eq_true D3))
                   go_ret
                   exact ⟨by first | rfl | (simp; done) | (simp only [← Ci] <;> (first | rfl | simp)) | (simp [*]; done),by repeat (first | exact ah.refl _ | apply ah.step)⟩
                  ·rw [if_neg EJ] at H
                   have Mj : ((bt a0 (hU)) == 125) = false := beq_eq_false_iff_ne.mpr EJ
                   have Mi : ((bt a0 (hU)) != 125) = true := bne_iff_ne.mpr EJ
                   obtain rfl := Option.some.inj H
                   go_wp2_with (first | ((with_reducible refine aW (f := 56) rfl ?_); refine bK (some 66) rfl rfl Tryz.func56 (by kernel_rfl) rfl #[.string (a0.extract 3 a0.size),.int .i64 (wrap64 (a1 - 1)),.int .i64 a2,.int .i64 (wrap64 (a3 - 1))] rfl (by (try simp only [List.map_toArray,List.map_cons,List.map_nil]); first | done | rfl | (simp only [List.length_drop,List.length_take]; rfl)) ?_; (with_reducible refine (ih IM (by have := ke.out; have := k7.out; have := kg.out; have := MB.out; omega) (a0.extract 3 a0.size) (wrap64 (a1 - 1)) a2 (wrap64 (a3 - 1)) t114 _ PT.out).mono ?_); rintro e w' ⟨rfl,⟨nd,rfl⟩⟩; refine ⟨_,rfl,?_⟩; have D7 : 0 ≤ ((hU) : Int) := of_decide_eq_true (by first | (with_reducible assumption) | assumption); have D3 : (hU) < (a0.size : Int) := of_decide_eq_true (by first | (with_reducible assumption) | assumption); have QT := bq a0 (hU); replace D7 := eq_true D7; replace D3 := eq_true D3))
                   go_ret
                   exact ⟨by first | rfl | (simp; done) | (simp only [← Ci] <;> (first | rfl | simp)) | (simp [*]; done),by repeat (first | exact ah.refl _ | apply ah.step)⟩
                 ·rw [if_neg Lu] at H
                  exact absurd H (by simp)
                ·rw [if_neg Lv] at H
                 exact absurd H (by simp)
             ·rw [if_neg JL] at H
              exact absurd H (by simp)
         ·replace gW := Bool.eq_false_iff.mpr gW
          subst gW
          have H1 : (if 0 < (a0.size : Int) then (if (bt a0 0) = 97 then (if 1 ≤ (a0.size : Int) then ((ar.f yN (a0.extract 1 a0.size) (wrap64 (a1 - 1)) a2 a3).bind fun t115 => (if t115 > 0 then (some (wrap64 (t115 + 1))) else (some 0))) else (none)) else (if (bt a0 0) = 40 then (ar.l0 yN a0 a1 a2 a3 1) else (some 0))) else (none)) = some r := by rw [if_neg (show ¬ (false = true) by decide)] at H; exact H
          clear H
          have H := H1
          clear H1
          by_cases Lt : 0 < (a0.size : Int)
          ·rw [if_pos Lt] at H
           have TN : decide (0 < (a0.size : Int)) = true := decide_eq_true Lt
           have TM : decide (0 < a0.size) = true := decide_eq_true (by omega)
           clear Lt
           by_cases EI : (bt a0 0) = 97
           ·rw [if_pos EI] at H
            have Mh : ((bt a0 0) == 97) = true := beq_iff_eq.mpr EI
            have Mg : ((bt a0 0) != 97) = false := bne_eq_false_iff_eq.mpr EI
            clear EI
            by_cases JK : 1 ≤ (a0.size : Int)
            ·rw [if_pos JK] at H
             have TL := eq_true JK
             have TK : decide (1 ≤ (a0.size : Int)) = true := decide_eq_true JK
             clear JK
             replace H := Option.bind_eq_some_iff.mp H
             obtain ⟨t115,acb,H⟩ := H
             replace H : (if t115 > 0 then (some (wrap64 (t115 + 1))) else (some 0)) = some r := H
             have A44 := U.mk acb
             clear acb
             by_cases GO : t115 > 0
             ·rw [if_pos GO] at H
              have Mf : decide (0 < t115) = true := decide_eq_true GO
              clear GO
              obtain rfl := Option.some.inj H
              have Bc : 0 ≤ (0 : Int) := (by omega)
              have vn : 0 < a0.size := (by have : (0 : Int) < (a0.size : Int) := of_decide_eq_true (by first | (with_reducible assumption) | assumption); omega)
              have I0 : ∀ h : 0 < a0.size,((a0[0]'h).toNat : Int) = bt a0 0 := bq a0 0
              clear Bc
              have Io : (0 < (a0.size : Int)) = True := eq_true (of_decide_eq_true (by first | (with_reducible assumption) | assumption))
              replace vn := eq_true vn
              go_wp2_with (first | ((with_reducible refine aW (f := 56) rfl ?_); refine bK (some 95) rfl rfl Tryz.func56 (by kernel_rfl) rfl #[.string (a0.extract 1 a0.size),.int .i64 (wrap64 (a1 - 1)),.int .i64 a2,.int .i64 a3] rfl (by (try simp only [List.map_toArray,List.map_cons,List.map_nil]); first | done | rfl | (simp only [List.length_drop,List.length_take]; rfl)) ?_; (with_reducible refine (ih yN (by have := ke.out; have := k7.out; have := kg.out; omega) (a0.extract 1 a0.size) (wrap64 (a1 - 1)) a2 a3 t115 _ A44.out).mono ?_); rintro e w' ⟨rfl,⟨nd,rfl⟩⟩; refine ⟨_,rfl,?_⟩))
              go_ret
              exact ⟨by first | rfl | (simp; done) | (simp [*]; done),by repeat (first | exact ah.refl _ | apply ah.step)⟩
             ·rw [if_neg GO] at H
              have Mf : decide (0 < t115) = false := decide_eq_false GO
              clear GO
              obtain rfl := Option.some.inj H
              have Bc : 0 ≤ (0 : Int) := (by omega)
              have vn : 0 < a0.size := (by have : (0 : Int) < (a0.size : Int) := of_decide_eq_true (by first | (with_reducible assumption) | assumption); omega)
              have I0 : ∀ h : 0 < a0.size,((a0[0]'h).toNat : Int) = bt a0 0 := bq a0 0
              clear Bc
              have Io : (0 < (a0.size : Int)) = True := eq_true (of_decide_eq_true (by first | (with_reducible assumption) | assumption))
              replace vn := eq_true vn
              go_wp2_with (first | ((with_reducible refine aW (f := 56) rfl ?_); refine bK (some 95) rfl rfl Tryz.func56 (by kernel_rfl) rfl #[.string (a0.extract 1 a0.size),.int .i64 (wrap64 (a1 - 1)),.int .i64 a2,.int .i64 a3] rfl (by (try simp only [List.map_toArray,List.map_cons,List.map_nil]); first | done | rfl | (simp only [List.length_drop,List.length_take]; rfl)) ?_; (with_reducible refine (ih yN (by have := ke.out; have := k7.out; have := kg.out; omega) (a0.extract 1 a0.size) (wrap64 (a1 - 1)) a2 a3 t115 _ A44.out).mono ?_); rintro e w' ⟨rfl,⟨nd,rfl⟩⟩; refine ⟨_,rfl,?_⟩))
              go_ret
              exact ⟨by first | rfl | (simp; done) | (simp [*]; done),by repeat (first | exact ah.refl _ | apply ah.step)⟩
            ·rw [if_neg JK] at H
             exact absurd H (by simp)
           ·rw [if_neg EI] at H
            have Mh : ((bt a0 0) == 97) = false := beq_eq_false_iff_ne.mpr EI
            have Mg : ((bt a0 0) != 97) = true := bne_iff_ne.mpr EI
            by_cases EH : (bt a0 0) = 40
            ·rw [if_pos EH] at H
             have Me : ((bt a0 0) == 40) = true := beq_iff_eq.mpr EH
             have Md : ((bt a0 0) != 40) = false := bne_eq_false_iff_eq.mpr EH
             clear EH
             have H' := U.mk H
             clear H
             have Bc : 0 ≤ (0 : Int) := (by omega)
             have vn : 0 < a0.size := (by have : (0 : Int) < (a0.size : Int) := of_decide_eq_true (by first | (with_reducible assumption) | assumption); omega)
             have I0 : ∀ h : 0 < a0.size,((a0[0]'h).toNat : Int) = bt a0 0 := bq a0 0
             clear Bc
             have Io : (0 < (a0.size : Int)) = True := eq_true (of_decide_eq_true (by first | (with_reducible assumption) | assumption))
             replace vn := eq_true vn
             have Ip : 0 ≤ (0 : Int) := (by omega)
             have D1 : 0 < a0.size := (by have : (0 : Int) < (a0.size : Int) := of_decide_eq_true (by first | (with_reducible assumption) | assumption); omega)
             have QS : ∀ h : 0 < a0.size,((a0[0]'h).toNat : Int) = bt a0 0 := bq a0 0
             clear Ip
             have Qd : (0 < (a0.size : Int)) = True := eq_true (of_decide_eq_true (by first | (with_reducible assumption) | assumption))
             replace D1 := eq_true D1
             go_wp2
             go_loopg [11] yN (fun kq v11 w' => ∃ (cU : Int),v11 = .int .i64 cU ∧ U (ar.l0 kq a0 a1 a2 a3 cU = some r) ∧ U (kq ≤ yN) ∧ ah w w')
             case atStart => exact ⟨(1),(by first | rfl | (simp; done) | (simp [*]; done)),H', ⟨Nat.le_refl _⟩,by repeat (first | exact ah.refl _ | apply ah.step)⟩
             case round=>
              clear H'
              try clear c1
              try clear p1
              try clear q1
              try clear jy
              try clear S3
              try clear c2
              try clear p2
              try clear q2
              try clear xw
              try clear Ys
              try clear c3
              try clear p3
              try clear q3
              try clear hx3
              try clear c4
              try clear p4
              try clear q4
              try clear iY
              try clear jT
              try clear c5
              try clear c6
              try clear eg
              try clear fR
              try clear p6
              try clear c7
              try clear dn
              try clear c8
              try clear eD
              try clear c9
              try clear bE
              try clear dJ
              try clear eS
              try clear zA
              try clear vo
              try clear FR
              try clear Fx
              try clear cS
              try clear iV
              try clear iF
              try clear vw
              try clear Dw
              try clear eM
              try clear fk
              try clear iN
              try clear lJ
              try clear zy
              try clear lx
              try clear FP
              try clear Fw
              try clear fN
              try clear kF
              try clear Cs
              try clear eL
              try clear gb
              try clear iM
              try clear fe
              try clear j'
              try clear j9
              try clear vp
              try clear lq
              try clear FI
              try clear LP
              try clear gW
              try clear kV
              try clear kE
              try clear Cr
              try clear JM
              try clear Mo
              try clear Mn
              try clear Iq
              try clear Gg
              try clear QU
              try clear Qe
              try clear Lw
              try clear JL
              try clear TR
              try clear TQ
              try clear EK
              try clear Mm
              try clear Ml
              try clear GP
              try clear Mk
              try clear Lv
              try clear TP
              try clear Lu
              try clear TO
              try clear D7
              try clear D3
              try clear QT
              try clear EJ
              try clear Mj
              try clear Mi
              try clear Lt
              try clear TN
              try clear TM
              try clear Bc
              try clear vn
              try clear I0
              try clear Io
              try clear EI
              try clear Mh
              try clear Mg
              try clear JK
              try clear TL
              try clear TK
              try clear GO
              try clear Mf
              try clear Ip
              try clear D1
              try clear QS
              try clear Qd
              try clear EH
              try clear Me
              try clear Md
              try clear p1
              try clear zA
              try clear iV
              try clear zy
              try clear p2
              try clear vp
              try clear Iq
              try clear D7
              try clear Bc
              try clear Ip
              try clear q1
              try clear vo
              try clear iF
              try clear lx
              try clear q2
              try clear lq
              try clear Gg
              try clear D3
              try clear vn
              try clear D1
              obtain ⟨cU,rfl,HA,LA,⟨m4,rfl⟩⟩ := hrel
              cases gk with
              | zero => exact absurd HA.out (by simp [ar.l0])
              | succ k4=>
               have H := HA.out
               clear HA
               simp only [ar.l0] at H
               have SD := U.mk H
               clear H
               go_upto_region 18 with (fail)
               go_cut [113] (fun aeo wc => ∃ (kq : Nat) (BZ : Bool),aeo = .bool BZ ∧ U (ar.j5 kq a0 a1 a2 a3 cU BZ = some r) ∧ U (kq ≤ k4) ∧ ah w wc)
               case first=>
                have H := SD.out
                clear SD
                by_cases c49 : cU < (a0.size : Int)
                ·rw [if_pos c49] at H
                 have Cq : decide (cU < (a0.size : Int)) = true := decide_eq_true c49
                 clear c49
                 (first | rw [Cq] | (simp only [cL,dr]; rw [Cq]) | skip)
                 by_cases Pb : 0 ≤ cU
                 ·rw [if_pos Pb] at H
                  have adf : decide (0 ≤ cU) = true := decide_eq_true Pb
                  clear Pb
                  have H' := U.mk H
                  clear H
                  have S6 : 0 ≤ (cU : Int) := of_decide_eq_true (by first | (with_reducible assumption) | assumption)
                  have S4 : cU < (a0.size : Int) := of_decide_eq_true (by first | (with_reducible assumption) | assumption)
                  have aeL := bq a0 cU
                  replace S6 := eq_true S6
                  replace S4 := eq_true S4
                  go_wp2
                  go_meet
                  case rel => exact ⟨_,(((bt a0 cU) != 41)),(by first | rfl | (simp; done) | (simp [*]; done)),H', ⟨by have := ke.out; have := k7.out; have := kg.out; have := LA.out; first | omega | exact Nat.le_refl _⟩,by repeat (first | exact ah.refl _ | apply ah.step)⟩
                 ·rw [if_neg Pb] at H
                  exact absurd H (by simp)
                ·rw [if_neg c49] at H
                 have Cq : decide (cU < (a0.size : Int)) = false := decide_eq_false c49
                 clear c49
                 (first | rw [Cq] | (simp only [cL,dr]; rw [Cq]) | skip)
                 have H' := U.mk H
                 clear H
                 go_wp2
                 go_meet
                 case rel => exact ⟨_,(false),(by first | rfl | (simp; done) | (simp [*]; done)),H', ⟨by have := ke.out; have := k7.out; have := kg.out; have := LA.out; first | omega | exact Nat.le_refl _⟩,by repeat (first | exact ah.refl _ | apply ah.step)⟩
               case rest=>
                clear SD
                try clear c1
                try clear p1
                try clear q1
                try clear jy
                try clear S3
                try clear c2
                try clear p2
                try clear q2
                try clear xw
                try clear Ys
                try clear c3
                try clear p3
                try clear q3
                try clear hx3
                try clear c4
                try clear p4
                try clear q4
                try clear iY
                try clear jT
                try clear c5
                try clear p5
                try clear q5
                try clear Y9
                try clear c6
                try clear eg
                try clear fR
                try clear p6
                try clear c7
                try clear dn
                try clear c8
                try clear eD
                try clear c9
                try clear bE
                try clear dJ
                try clear eS
                try clear zA
                try clear vo
                try clear FR
                try clear Fx
                try clear cS
                try clear iV
                try clear iF
                try clear vw
                try clear Dw
                try clear eM
                try clear fk
                try clear iN
                try clear lJ
                try clear zy
                try clear lx
                try clear FP
                try clear Fw
                try clear fN
                try clear kF
                try clear Cs
                try clear eL
                try clear gb
                try clear iM
                try clear fe
                try clear j'
                try clear j9
                try clear vp
                try clear lq
                try clear FI
                try clear LP
                try clear gW
                try clear kV
                try clear kE
                try clear Cr
                try clear JM
                try clear Mo
                try clear Mn
                try clear Iq
                try clear Gg
                try clear QU
                try clear Qe
                try clear Lw
                try clear JL
                try clear TR
                try clear TQ
                try clear EK
                try clear Mm
                try clear Ml
                try clear GP
                try clear Mk
                try clear Lv
                try clear TP
                try clear Lu
                try clear TO
                try clear D7
                try clear D3
                try clear QT
                try clear EJ
                try clear Mj
                try clear Mi
                try clear Lt
                try clear TN
                try clear TM
                try clear Bc
                try clear vn
                try clear I0
                try clear Io
                try clear EI
                try clear Mh
                try clear Mg
                try clear JK
                try clear TL
                try clear TK
                try clear GO
                try clear Mf
                try clear Ip
                try clear D1
                try clear QS
                try clear Qd
                try clear EH
                try clear Me
                try clear Md
                try clear c49
                try clear Cq
                try clear Pb
                try clear adf
                try clear S6
                try clear S4
                try clear aeL
                try clear p1
                try clear zA
                try clear iV
                try clear zy
                try clear p2
                try clear vp
                try clear Iq
                try clear p3
                try clear D7
                try clear p4
                try clear Bc
                try clear Ip
                try clear S6
                try clear p6
                try clear q1
                try clear vo
                try clear iF
                try clear lx
                try clear q2
                try clear lq
                try clear Gg
                try clear q3
                try clear D3
                try clear q4
                try clear vn
                try clear D1
                try clear S4
                obtain ⟨kq,BZ,rfl,HA,MA,⟨ahN,rfl⟩⟩ := hcut
                cases kq with
                | zero => exact absurd HA.out (by simp [ar.j5])
                | succ FB=>
                 have H := HA.out
                 clear HA
                 simp only [ar.j5] at H
                 by_cases TJ : BZ = true
                 ·subst TJ
                  have H1 : (if 0 ≤ cU then (if cU ≤ (a0.size : Int) then ((ar.f FB (a0.extract (cU : Int).toNat a0.size) a1 (wrap64 (a2 - 1)) a3).bind fun t116 => (if t116 = 0 then (some 0) else (ar.l0 FB a0 a1 a2 a3 (wrap64 (cU + t116))))) else (none)) else (none)) = some r := by rw [if_pos rfl] at H; exact H
                  clear H
                  have H := H1
                  clear H1
                  by_cases O' : 0 ≤ cU
                  ·rw [if_pos O'] at H
                   have ahu := eq_true O'
                   have aht : decide (0 ≤ cU) = true := decide_eq_true O'
                   clear O'
                   by_cases O9 : cU ≤ (a0.size : Int)
                   ·rw [if_pos O9] at H
                    have ahs := eq_true O9
                    have ahr : decide (cU ≤ (a0.size : Int)) = true := decide_eq_true O9
                    clear O9
                    replace H := Option.bind_eq_some_iff.mp H
                    obtain ⟨t116,aca,H⟩ := H
                    replace H : (if t116 = 0 then (some 0) else (ar.l0 FB a0 a1 a2 a3 (wrap64 (cU + t116)))) = some r := H
                    have A55 := U.mk aca
                    clear aca
                    by_cases JJ : t116 = 0
                    ·rw [if_pos JJ] at H
                     have ade : (t116 == 0) = true := beq_iff_eq.mpr JJ
                     have adb : (t116 != 0) = false := bne_eq_false_iff_eq.mpr JJ
                     clear JJ
                     obtain rfl := Option.some.inj H
                     go_wp2_with (first | ((with_reducible refine aW (f := 56) rfl ?_); refine bK (some 121) rfl rfl Tryz.func56 (by kernel_rfl) rfl #[.string (a0.extract (cU : Int).toNat a0.size),.int .i64 a1,.int .i64 (wrap64 (a2 - 1)),.int .i64 a3] rfl (by (try simp only [List.map_toArray,List.map_cons,List.map_nil]); first | done | rfl | (simp only [List.length_drop,List.length_take]; rfl)) ?_; (with_reducible refine (ih FB (by have := ke.out; have := k7.out; have := kg.out; have := LA.out; have := MA.out; omega) (a0.extract (cU : Int).toNat a0.size) a1 (wrap64 (a2 - 1)) a3 t116 _ A55.out).mono ?_); rintro e w' ⟨rfl,⟨nd,rfl⟩⟩; refine ⟨_,rfl,?_⟩))
                     go_ret
                     exact ⟨by first | rfl | (simp; done) | (simp [*]; done),by repeat (first | exact ah.refl _ | apply ah.step)⟩
                    ·rw [if_neg JJ] at H
                     have ade : (t116 == 0) = false := beq_eq_false_iff_ne.mpr JJ
                     have adb : (t116 != 0) = true := bne_iff_ne.mpr JJ
                     have H' := U.mk H
                     clear H
                     go_wp2_with (first | ((with_reducible refine aW (f := 56) rfl ?_); refine bK (some 121) rfl rfl Tryz.func56 (by kernel_rfl) rfl #[.string (a0.extract (cU : Int).toNat a0.size),.int .i64 a1,.int .i64 (wrap64 (a2 - 1)),.int .i64 a3] rfl (by (try simp only [List.map_toArray,List.map_cons,List.map_nil]); first | done | rfl | (simp only [List.length_drop,List.length_take]; rfl)) ?_; (with_reducible refine (ih FB (by have := ke.out; have := k7.out; have := kg.out; have := LA.out; have := MA.out; omega) (a0.extract (cU : Int).toNat a0.size) a1 (wrap64 (a2 - 1)) a3 t116 _ A55.out).mono ?_); rintro e w' ⟨rfl,⟨nd,rfl⟩⟩; refine ⟨_,rfl,?_⟩))
                     go_roundg FB
                     case measure => have := ke.out; have := k7.out; have := kg.out; have := LA.out; have := MA.out; omega
                     case rel => exact ⟨(wrap64 (cU + t116)),(by first | rfl | (simp; done) | (simp [*]; done)),H', ⟨by have := ke.out; have := k7.out; have := kg.out; have := LA.out; have := MA.out; omega⟩,by repeat (first | exact ah.refl _ | apply ah.step)⟩
                   ·rw [if_neg O9] at H
                    exact absurd H (by simp)
                  ·rw [if_neg O'] at H
                   exact absurd H (by simp)
                 ·replace TJ := Bool.eq_false_iff.mpr TJ
                  subst TJ
                  have H1 : (if cU > 1 then (if cU < (a0.size : Int) then (some (wrap64 (cU + 1))) else (some 0)) else (some 0)) = some r := by rw [if_neg (show ¬ (false = true) by decide)] at H; exact H
                  clear H
                  have H := H1
                  clear H1
                  by_cases Lr : cU > 1
                  ·rw [if_pos Lr] at H
                   have ada : decide (1 < cU) = true := decide_eq_true Lr
                   clear Lr
                   by_cases Lq : cU < (a0.size : Int)
                   ·rw [if_pos Lq] at H
                    have ac' : decide (cU < (a0.size : Int)) = true := decide_eq_true Lq
                    clear Lq
                    obtain rfl := Option.some.inj H
                    go_wp2
                    go_ret
                    exact ⟨by first | rfl | (simp; done) | (simp [*]; done),by repeat (first | exact ah.refl _ | apply ah.step)⟩
                   ·rw [if_neg Lq] at H
                    have ac' : decide (cU < (a0.size : Int)) = false := decide_eq_false Lq
                    clear Lq
                    obtain rfl := Option.some.inj H
                    go_wp2
                    go_ret
                    exact ⟨by first | rfl | (simp; done) | (simp [*]; done),by repeat (first | exact ah.refl _ | apply ah.step)⟩
                  ·rw [if_neg Lr] at H
                   have ada : decide (1 < cU) = false := decide_eq_false Lr
                   clear Lr
                   obtain rfl := Option.some.inj H
                   go_wp2
                   go_ret
                   exact ⟨by first | rfl | (simp; done) | (simp [*]; done),by repeat (first | exact ah.refl _ | apply ah.step)⟩
            ·rw [if_neg EH] at H
             have Me : ((bt a0 0) == 40) = false := beq_eq_false_iff_ne.mpr EH
             have Md : ((bt a0 0) != 40) = true := bne_iff_ne.mpr EH
             obtain rfl := Option.some.inj H
             have Bc : 0 ≤ (0 : Int) := (by omega)
             have vn : 0 < a0.size := (by have : (0 : Int) < (a0.size : Int) := of_decide_eq_true (by first | (with_reducible assumption) | assumption); omega)
             have I0 : ∀ h : 0 < a0.size,((a0[0]'h).toNat : Int) = bt a0 0 := bq a0 0
             clear Bc
             have Io : (0 < (a0.size : Int)) = True := eq_true (of_decide_eq_true (by first | (with_reducible assumption) | assumption))
             replace vn := eq_true vn
             have Ip : 0 ≤ (0 : Int) := (by omega)
             have D1 : 0 < a0.size := (by have : (0 : Int) < (a0.size : Int) := of_decide_eq_true (by first | (with_reducible assumption) | assumption); omega)
             have QS : ∀ h : 0 < a0.size,((a0[0]'h).toNat : Int) = bt a0 0 := bq a0 0
             clear Ip
             have Qd : (0 < (a0.size : Int)) = True := eq_true (of_decide_eq_true (by first | (with_reducible assumption) | assumption))
             replace D1 := eq_true D1
             go_wp2
             go_ret
             exact ⟨by first | rfl | (simp; done) | (simp [*]; done),by repeat (first | exact ah.refl _ | apply ah.step)⟩
          ·rw [if_neg Lt] at H
           exact absurd H (by simp)
end Go.Proofs.YtkdebhgccpfkiaaGreatDoor.au
namespace Go.Proofs.YtkdebhgccpfkiaaGreatDoor.au
open Go.RowKit Go.Proofs.aa.az Go.Proofs.aa.aM Go.Proofs.aa.aU
attribute [local go_sem] ba bh
set_option linter.unusedVariables false
set_option linter.unusedSimpArgs false
def bQ.l1 : Nat → ByteArray → ByteArray → List ByteArray → Option (List ByteArray)
 | 0,_,_,_ => none
 | k + 1,x0,x1,x5 => (bR.f k x0 x1).bind fun t107 => (if t107 < 0 then (if x5.length < 8796093022208 then (some (x5 ++ [x0])) else (none)) else (if 0 ≤ t107 then (if t107 ≤ (x0.size : Int) then (if x5.length < 8796093022208 then (if 0 ≤ (wrap64 (t107 + (x1.size : Int))) then (if (wrap64 (t107 + (x1.size : Int))) ≤ (x0.size : Int) then (bQ.l1 k (x0.extract ((wrap64 (t107 + (x1.size : Int))) : Int).toNat x0.size) x1 (x5 ++ [x0.extract 0 (t107 : Int).toNat])) else (none)) else (none)) else (none)) else (none)) else (none)))
def bQ.f (k : Nat) (a0 : ByteArray) (a1 : ByteArray) : Option (List ByteArray) := if (a1.size : Int) = 0 then none else (bQ.l1 k a0 a1 ([] : List ByteArray))
theorem bQ.calls (k : Nat) (a0 : ByteArray) (a1 : ByteArray) (r : List ByteArray) (w : World) (h : bQ.f k a0 a1 = some r) :
  Calls Tryz.prog 100 #[.string a0,.string a1] w fun e w' => ∃ AM : Value,e = .returned (AM) ∧ Kd.R Kd.string 9 w' w.heap.size (fun _ => True) AM r ∧ Below w.heap.size w w' := by
 have HB := U.mk (Below.refl w.heap.size w)
 have H : (if (a1.size : Int) = 0 then none else (bQ.l1 k a0 a1 ([] : List ByteArray))) = some r := h
 clear h
 by_cases c3 : (a1.size : Int) = 0
 ·rw [if_pos c3] at H
  exact absurd H (by simp)
 ·rw [if_neg c3] at H
  have cI : ((a1.size : Int) == 0) = false := beq_eq_false_iff_ne.mpr c3
  have ej : ((a1.size : Int) != 0) = true := bne_iff_ne.mpr c3
  have H' := U.mk H
  clear H
  go_enter Tryz.func100,Tryz.ntmps100
  go_wp2
  go_loopg [0,5] k (fun kq v0 v5 w' => ∃ (bW : ByteArray) (bS : List ByteArray),v0 = .string bW ∧ U (bQ.l1 kq bW a1 bS = some r) ∧ U (kq ≤ k) ∧ U (Kd.R Kd.string 9 w' w.heap.size (fun _ => True) v5 bS) ∧ U (Below w.heap.size w w'))
  case atStart => exact ⟨(a0),(([] : List ByteArray)),(by first | rfl | (simp; done) | (simp [*]; done)),H', ⟨Nat.le_refl _⟩,⟨by first | exact Kd.Ax _ _ _ _ _ | exact Kd.CZ _ _ _ _ _ | exact Kd.CR _ _ _ _ _ | exact Kd.CY _ _ _ _ _ | exact Kd.CV _ _ _ _ _⟩,⟨by repeat (first | (with_reducible first | exact HB.out | apply ab | apply ai | apply ak) | exact HB.out)⟩⟩
  case round=>
   clear H'
   try clear c1
   try clear c2
   try clear p2
   try clear c3
   try clear cI
   try clear ej
   try clear c4
   try clear ei
   try clear gl
   try clear c5
   try clear cW
   try clear c6
   try clear eg
   try clear fR
   try clear p6
   try clear c7
   try clear dn
   try clear eZ
   try clear c8
   try clear eD
   try clear jr
   try clear c9
   try clear bE
   try clear dJ
   try clear eS
   try clear bP
   try clear fj
   try clear jk
   try clear bV
   try clear dP
   try clear gf
   try clear cS
   try clear p2
   obtain ⟨bW,bS,rfl,HA,fu,Mw,HB⟩ := hrel
   cases gk with
   | zero => exact absurd HA.out (by simp [bQ.l1])
   | succ k1=>
    have H := HA.out
    clear HA
    simp only [bQ.l1] at H
    replace H := Option.bind_eq_some_iff.mp H
    obtain ⟨t107,ack,H⟩ := H
    replace H : (if t107 < 0 then (if bS.length < 8796093022208 then (some (bS ++ [bW])) else (none)) else (if 0 ≤ t107 then (if t107 ≤ (bW.size : Int) then (if bS.length < 8796093022208 then (if 0 ≤ (wrap64 (t107 + (a1.size : Int))) then (if (wrap64 (t107 + (a1.size : Int))) ≤ (bW.size : Int) then (bQ.l1 k1 (bW.extract ((wrap64 (t107 + (a1.size : Int))) : Int).toNat bW.size) a1 (bS ++ [bW.extract 0 (t107 : Int).toNat])) else (none)) else (none)) else (none)) else (none)) else (none))) = some r := H
    have A16 := U.mk ack
    clear ack
    by_cases fm : t107 < 0
    ·rw [if_pos fm] at H
     have kH : decide (t107 < 0) = true := decide_eq_true fm
     clear fm
     by_cases fk : bS.length < 8796093022208
     ·rw [if_pos fk] at H
      have adK := U.mk fk
      clear fk
      obtain ⟨ad1,El⟩ : ∃ y_ : List ByteArray,y_ = (bS ++ [bW]) := ⟨_,rfl⟩
      replace H : (some ad1) = some r := by first | (rw [El]; with_reducible exact H) | (have jb := (Option.bind_some _ _).symm.trans H; rw [El]; with_reducible exact jb) | (have jb := (Option.bind_some _ _).symm.trans H; with_reducible exact jb) | with_reducible exact H | (rw [El]; exact H) | exact H
      have adI := U.mk El
      clear El
      obtain rfl := Option.some.inj H
      go_wp2_with (first | ((with_reducible refine aW (f := 109) rfl ?_); refine bK (some 39) rfl rfl Tryz.func109 (by kernel_rfl) rfl #[.string bW,.string a1] rfl (by (try simp only [List.map_toArray,List.map_cons,List.map_nil]); first | done | rfl | (simp only [List.length_drop,List.length_take]; rfl)) ?_; (with_reducible refine (bR.calls k1 bW a1 t107 _ A16.out).mono ?_); rintro e w' ⟨rfl,⟨nd,rfl⟩⟩; refine ⟨_,rfl,?_⟩) | ((with_reducible refine gN (b := .append) (xs := #[.tmp 42,.tmp 44]) rfl ?_); at_builtin; refine Kd.vH Kd.string (w0 := w) w.heap.size rfl (.tmp 42) (.tmp 44) 43 9 (.string ⟨#[]⟩) 16 rfl Tryz.underlying43 LV rfl (by decide) (by omega) u5 bS bW [.string bW] (fun _ => True) (fun _ => False) rfl rfl ?aP (fun _ hk => hk.elim) ?aF ?aO ?aB ?aS ?aL ?_; (case aP => exact rfl); (case aB => exact (by repeat (first | (with_reducible first | exact HB.out | apply ab | apply ai | apply ak) | exact HB.out))); (case aF => exact (fun _ _ => trivial)); (case aO => exact (by (with_reducible repeat (first | apply Kd.cu | apply Kd.cJ | apply Kd.de)); exact Mw.out)); (case aS => exact (br (by repeat (first | (with_reducible first | exact HB.out | apply ab | apply ai | apply ak) | exact HB.out)))); (case aL => have := adK.out; omega); intro v109 w19 ho hb hg cM; rw [← adI.out] at ho; have bM := U.mk (hb); have cq := U.mk (ho); clear HB; clear Mw; have HB := bM; have adT := cq; clear bM cq; clear ho hb hg cM))
      go_ret
      exact ⟨_,by first | rfl | (simp [bc,bb] <;> rfl) | (simp [*,bc,bb] <;> rfl) | (simp (disch := omega) only [cA] <;> rfl),by (with_reducible repeat (first | apply Kd.cu | apply Kd.cJ | apply Kd.de)); exact adT.out,by repeat (first | (with_reducible first | exact HB.out | apply ab | apply ai | apply ak) | exact HB.out)⟩
     ·rw [if_neg fk] at H
      exact absurd H (by simp)
    ·rw [if_neg fm] at H
     have kH : decide (t107 < 0) = false := decide_eq_false fm
     clear fm
     by_cases fN : 0 ≤ t107
     ·rw [if_pos fN] at H
      have kF := eq_true fN
      have Cs : decide (0 ≤ t107) = true := decide_eq_true fN
      clear fN
      by_cases eL : t107 ≤ (bW.size : Int)
      ·rw [if_pos eL] at H
       have gb := eq_true eL
       have iM : decide (t107 ≤ (bW.size : Int)) = true := decide_eq_true eL
       clear eL
       by_cases fe : bS.length < 8796093022208
       ·rw [if_pos fe] at H
        have adJ := U.mk fe
        clear fe
        obtain ⟨PY,Ek⟩ : ∃ y_ : List ByteArray,y_ = (bS ++ [bW.extract 0 (t107 : Int).toNat]) := ⟨_,rfl⟩
        replace H : (if 0 ≤ (wrap64 (t107 + (a1.size : Int))) then (if (wrap64 (t107 + (a1.size : Int))) ≤ (bW.size : Int) then (bQ.l1 k1 (bW.extract ((wrap64 (t107 + (a1.size : Int))) : Int).toNat bW.size) a1 PY) else (none)) else (none)) = some r := by first | (rw [Ek]; with_reducible exact H) | (have jb := (Option.bind_some _ _).symm.trans H; rw [Ek]; with_reducible exact jb) | (have jb := (Option.bind_some _ _).symm.trans H; with_reducible exact jb) | with_reducible exact H | (rw [Ek]; exact H) | exact H
        have adH := U.mk Ek
        clear Ek
        obtain ⟨zW,Es⟩ : ∃ j_ : Int,(wrap64 (t107 + (a1.size : Int))) = j_ := ⟨_,rfl⟩
        replace H : (if 0 ≤ (zW) then (if (zW) ≤ (bW.size : Int) then (bQ.l1 k1 (bW.extract ((zW) : Int).toNat bW.size) a1 PY) else (none)) else (none)) = some r := by first | (rw [Es] at H; exact H) | (simp only [Es] at H ⊢; exact H)
        (try rw [Es] at A16)
        have agD : (IntKind.i64.wrap (t107 + (a1.size : Int))) = zW := (cL _).trans Es
        by_cases gW : 0 ≤ (zW)
        ·rw [if_pos gW] at H
         have TT := eq_true gW
         have TS : decide (0 ≤ (zW)) = true := decide_eq_true gW
         clear gW
         by_cases gV : (zW) ≤ (bW.size : Int)
         ·rw [if_pos gV] at H
          have Hn := eq_true gV
          have Hm : decide ((zW) ≤ (bW.size : Int)) = true := decide_eq_true gV
          clear gV
          have H' := U.mk H
          clear H
          go_wp2_with (first | ((with_reducible refine aW (f := 109) rfl ?_); refine bK (some 39) rfl rfl Tryz.func109 (by kernel_rfl) rfl #[.string bW,.string a1] rfl (by (try simp only [List.map_toArray,List.map_cons,List.map_nil]); first | done | rfl | (simp only [List.length_drop,List.length_take]; rfl)) ?_; (with_reducible refine (bR.calls k1 bW a1 t107 _ A16.out).mono ?_); rintro e w' ⟨rfl,⟨nd,rfl⟩⟩; refine ⟨_,rfl,?_⟩) | ((with_reducible refine gN (b := .append) (xs := #[.tmp 46,.tmp 50]) rfl ?_); at_builtin; refine Kd.vH Kd.string (w0 := w) w.heap.size rfl (.tmp 46) (.tmp 50) 43 9 (.string ⟨#[]⟩) 16 rfl Tryz.underlying43 LV rfl (by decide) (by omega) u5 bS (bW.extract 0 (t107 : Int).toNat) [.string (bW.extract 0 (t107 : Int).toNat)] (fun _ => True) (fun _ => False) rfl rfl ?aP (fun _ hk => hk.elim) ?aF ?aO ?aB ?aS ?aL ?_; (case aP => exact rfl); (case aB => exact (by repeat (first | (with_reducible first | exact HB.out | apply ab | apply ai | apply ak) | exact HB.out))); (case aF => exact (fun _ _ => trivial)); (case aO => exact (by (with_reducible repeat (first | apply Kd.cu | apply Kd.cJ | apply Kd.de)); exact Mw.out)); (case aS => exact (br (by repeat (first | (with_reducible first | exact HB.out | apply ab | apply ai | apply ak) | exact HB.out)))); (case aL => have := adJ.out; omega); intro ahL w26 ho hb hg cM; rw [← adH.out] at ho; have bM := U.mk (hb); have cq := U.mk (ho); clear HB; clear Mw; have HB := bM; have adS := cq; clear bM cq; clear ho hb hg cM))
          go_roundg k1
          case measure => have := fu.out; omega
          case rel => exact ⟨(bW.extract ((zW) : Int).toNat bW.size),(PY),(by first | rfl | (simp; done) | (simp only [← Es] <;> (first | rfl | simp)) | (simp [*]; done)),H', ⟨by have := fu.out; omega⟩,⟨by (with_reducible repeat (first | apply Kd.cu | apply Kd.cJ | apply Kd.de)); exact adS.out⟩,⟨by repeat (first | (with_reducible first | exact HB.out | apply ab | apply ai | apply ak) | exact HB.out)⟩⟩
         ·rw [if_neg gV] at H
          exact absurd H (by simp)
        ·rw [if_neg gW] at H
         exact absurd H (by simp)
       ·rw [if_neg fe] at H
        exact absurd H (by simp)
      ·rw [if_neg eL] at H
       exact absurd H (by simp)
     ·rw [if_neg fN] at H
      exact absurd H (by simp)
end Go.Proofs.YtkdebhgccpfkiaaGreatDoor.au
