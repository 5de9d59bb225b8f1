import Derived.Test.YtkdebhgccpfkiaaGreatDoorQKX1
set_option maxRecDepth 100000
set_option maxHeartbeats 16000000
namespace Go.Proofs.YtkdebhgccpfkiaaGreatDoor.au
open Go.RowKit Go.Proofs.aa.az Go.Proofs.aa.aM Go.Proofs.aa.aU
attribute [local go_sem] ba bh
set_option linter.unusedVariables false
set_option linter.unusedSimpArgs false


mutual
def aq.j0 : Nat → Int → Bool → Option (Int)
 | 0,_,_ => none
 | k + 1,x6,SR => if SR = true then (some 4) else (if x6 = 117 then (aq.j1 k x6 (x6 == 117)) else (aq.j1 k x6 (x6 == 104)))
def aq.j1 : Nat → Int → Bool → Option (Int)
 | 0,_,_ => none
 | k + 1,x6,x18 => if x18 = true then (some 9) else (if x6 = 120 then (some 5) else (if x6 = 116 then (some 10) else (if x6 = 100 then (some 11) else (if x6 = 115 then (aq.j2 k x6 (x6 == 115)) else (aq.j2 k x6 (x6 == 111))))))
def aq.j2 : Nat → Int → Bool → Option (Int)
 | 0,_,_ => none
 | k + 1,x6,Ay => if Ay = true then (some 17) else (if x6 = 91 then (some 16) else (if x6 = 123 then (some 14) else (if x6 = 42 then (some 13) else (if x6 = 103 then (some 18) else (if x6 = 118 then (some 18) else (if x6 = 40 then (some 18) else (some 0)))))))
end
def aq.f (k : Nat) (a0 : ByteArray) : Option (Int) := if a0.toList = ([] : List UInt8) then (some 0) else (if 0 < (a0.size : Int) then (if (bt a0 0) = 121 then (some 7) else (if (bt a0 0) = 98 then (some 1) else (if (bt a0 0) = 110 then (some 3) else (if (bt a0 0) = 113 then (some 8) else (if (bt a0 0) = 105 then (aq.j0 k (bt a0 0) ((bt a0 0) == 105)) else (aq.j0 k (bt a0 0) ((bt a0 0) == 72))))))) else (none))
theorem aq.zB : ∀ k,(∀ y0 y1,dw (aq.j0 k y0 y1) (aq.j0 (k + 1) y0 y1)) ∧ (∀ y0 y1,dw (aq.j1 k y0 y1) (aq.j1 (k + 1) y0 y1)) ∧ (∀ y0 y1,dw (aq.j2 k y0 y1) (aq.j2 (k + 1) y0 y1))
 | 0 => ⟨fun _ _ r h => by simp [aq.j0] at h,fun _ _ r h => by simp [aq.j1] at h,fun _ _ r h => by simp [aq.j2] at h⟩
 | k + 1 => by
  obtain ⟨Bp,Bo,NZ⟩ := aq.zB k
  refine ⟨?_,?_,?_⟩ <;> intros <;> (first | unfold aq.j0 | unfold aq.j1 | unfold aq.j2) <;> repeat' first
    | (with_reducible exact Bp _ _)
    | (with_reducible exact Bo _ _)
    | (with_reducible exact NZ _ _)
    | (with_reducible exact dw.refl _)
    | (with_reducible exact dw.none _)
    | (with_reducible refine dw.ite ?_ ?_)
    | (with_reducible refine dw.bind ?_ (fun _ => ?_))
    | exact Bp _ _
    | exact Bo _ _
    | exact NZ _ _
    | exact dw.none _
    | refine dw.ite ?_ ?_
    | refine dw.bind ?_ (fun _ => ?_)
theorem aq.mono : ∀ a0 k,dw (aq.f k a0) (aq.f (k + 1) a0) := by
 intro a0 k
 obtain ⟨Bp,Bo,NZ⟩ := aq.zB k
 unfold aq.f
 repeat' first
   | (with_reducible exact Bp _ _)
   | (with_reducible exact Bo _ _)
   | (with_reducible exact NZ _ _)
   | (with_reducible exact dw.refl _)
   | (with_reducible exact dw.none _)
   | (with_reducible refine dw.ite ?_ ?_)
   | (with_reducible refine dw.bind ?_ (fun _ => ?_))
   | exact Bp _ _
   | exact Bo _ _
   | exact NZ _ _
   | exact dw.none _
   | refine dw.ite ?_ ?_
   | refine dw.bind ?_ (fun _ => ?_)
theorem aq.calls (k : Nat) (a0 : ByteArray) (r : Int) (w : World) (h : aq.f k a0 = some r) :
  Calls Tryz.prog 50 #[.string a0] w fun e w' => e = .returned (.int .i64 r) ∧ ah w w' := by
 have H : (if a0.toList = ([] : List UInt8) then (some 0) else (if 0 < (a0.size : Int) then (if (bt a0 0) = 121 then (some 7) else (if (bt a0 0) = 98 then (some 1) else (if (bt a0 0) = 110 then (some 3) else (if (bt a0 0) = 113 then (some 8) else (if (bt a0 0) = 105 then (aq.j0 k (bt a0 0) ((bt a0 0) == 105)) else (aq.j0 k (bt a0 0) ((bt a0 0) == 72))))))) else (none))) = some r := h
 clear h
 by_cases c2 : a0.toList = ([] : List UInt8)
 ·rw [if_pos c2] at H
  have df : (a0.toList == ([] : List UInt8)) = true := beq_iff_eq.mpr c2
  have eF : (a0.toList != ([] : List UInt8)) = false := bne_eq_false_iff_eq.mpr c2
  clear c2
  obtain rfl := Option.some.inj H
  go_enter Tryz.func50,Tryz.ntmps50
  go_wp2
  go_ret
  exact ⟨by first | rfl | (simp; done) | (simp [*]; done),by repeat (first | exact ah.refl _ | apply ah.step)⟩
 ·rw [if_neg c2] at H
  have df : (a0.toList == ([] : List UInt8)) = false := beq_eq_false_iff_ne.mpr c2
  have eF : (a0.toList != ([] : List UInt8)) = true := bne_iff_ne.mpr c2
  by_cases c3 : 0 < (a0.size : Int)
  ·rw [if_pos c3] at H
   have cI : decide (0 < (a0.size : Int)) = true := decide_eq_true c3
   have ej : decide (0 < a0.size) = true := decide_eq_true (by omega)
   clear c3
   by_cases c5 : (bt a0 0) = 121
   ·rw [if_pos c5] at H
    have cW : ((bt a0 0) == 121) = true := beq_iff_eq.mpr c5
    have dH : ((bt a0 0) != 121) = false := bne_eq_false_iff_eq.mpr c5
    clear c5
    obtain rfl := Option.some.inj H
    have p4 : 0 ≤ (0 : Int) := (by omega)
    have q4 : 0 < a0.size := (by have : (0 : Int) < (a0.size : Int) := of_decide_eq_true (by first | (with_reducible assumption) | assumption); omega)
    have iY : ∀ h : 0 < a0.size,((a0[0]'h).toNat : Int) = bt a0 0 := bq a0 0
    clear p4
    have jT : (0 < (a0.size : Int)) = True := eq_true (of_decide_eq_true (by first | (with_reducible assumption) | assumption))
    replace q4 := eq_true q4
    go_enter Tryz.func50,Tryz.ntmps50
    go_wp2
    go_ret
    exact ⟨by first | rfl | (simp; done) | (simp [*]; done),by repeat (first | exact ah.refl _ | apply ah.step)⟩
   ·rw [if_neg c5] at H
    have cW : ((bt a0 0) == 121) = false := beq_eq_false_iff_ne.mpr c5
    have dH : ((bt a0 0) != 121) = true := bne_iff_ne.mpr c5
    by_cases c6 : (bt a0 0) = 98
    ·rw [if_pos c6] at H
     have eg : ((bt a0 0) == 98) = true := beq_iff_eq.mpr c6
     have fR : ((bt a0 0) != 98) = false := bne_eq_false_iff_eq.mpr c6
     clear c6
     obtain rfl := Option.some.inj H
     have p4 : 0 ≤ (0 : Int) := (by omega)
     have q4 : 0 < a0.size := (by have : (0 : Int) < (a0.size : Int) := of_decide_eq_true (by first | (with_reducible assumption) | assumption); omega)
     have iY : ∀ h : 0 < a0.size,((a0[0]'h).toNat : Int) = bt a0 0 := bq a0 0
     clear p4
     have jT : (0 < (a0.size : Int)) = True := eq_true (of_decide_eq_true (by first | (with_reducible assumption) | assumption))
     replace q4 := eq_true q4
     go_enter Tryz.func50,Tryz.ntmps50
     go_wp2
     go_ret
     exact ⟨by first | rfl | (simp; done) | (simp [*]; done),by repeat (first | exact ah.refl _ | apply ah.step)⟩
    ·rw [if_neg c6] at H
     have eg : ((bt a0 0) == 98) = false := beq_eq_false_iff_ne.mpr c6
     have fR : ((bt a0 0) != 98) = true := bne_iff_ne.mpr c6
     by_cases c7 : (bt a0 0) = 110
     ·rw [if_pos c7] at H
      have dn : ((bt a0 0) == 110) = true := beq_iff_eq.mpr c7
      have eZ : ((bt a0 0) != 110) = false := bne_eq_false_iff_eq.mpr c7
      clear c7
      obtain rfl := Option.some.inj H
      have p4 : 0 ≤ (0 : Int) := (by omega)
      have q4 : 0 < a0.size := (by have : (0 : Int) < (a0.size : Int) := of_decide_eq_true (by first | (with_reducible assumption) | assumption); omega)
      have iY : ∀ h : 0 < a0.size,((a0[0]'h).toNat : Int) = bt a0 0 := bq a0 0
      clear p4
      have jT : (0 < (a0.size : Int)) = True := eq_true (of_decide_eq_true (by first | (with_reducible assumption) | assumption))
      replace q4 := eq_true q4
      go_enter Tryz.func50,Tryz.ntmps50
      go_wp2
      go_ret
      exact ⟨by first | rfl | (simp; done) | (simp [*]; done),by repeat (first | exact ah.refl _ | apply ah.step)⟩
     ·rw [if_neg c7] at H
      have dn : ((bt a0 0) == 110) = false := beq_eq_false_iff_ne.mpr c7
      have eZ : ((bt a0 0) != 110) = true := bne_iff_ne.mpr c7
      by_cases c8 : (bt a0 0) = 113
      ·rw [if_pos c8] at H
       have eD : ((bt a0 0) == 113) = true := beq_iff_eq.mpr c8
       have jr : ((bt a0 0) != 113) = false := bne_eq_false_iff_eq.mpr c8
       clear c8
       obtain rfl := Option.some.inj H
       have p4 : 0 ≤ (0 : Int) := (by omega)
       have q4 : 0 < a0.size := (by have : (0 : Int) < (a0.size : Int) := of_decide_eq_true (by first | (with_reducible assumption) | assumption); omega)
       have iY : ∀ h : 0 < a0.size,((a0[0]'h).toNat : Int) = bt a0 0 := bq a0 0
       clear p4
       have jT : (0 < (a0.size : Int)) = True := eq_true (of_decide_eq_true (by first | (with_reducible assumption) | assumption))
       replace q4 := eq_true q4
       go_enter Tryz.func50,Tryz.ntmps50
       go_wp2
       go_ret
       exact ⟨by first | rfl | (simp; done) | (simp [*]; done),by repeat (first | exact ah.refl _ | apply ah.step)⟩
      ·rw [if_neg c8] at H
       have eD : ((bt a0 0) == 113) = false := beq_eq_false_iff_ne.mpr c8
       have jr : ((bt a0 0) != 113) = true := bne_iff_ne.mpr c8
       have HC9 := U.mk H
       clear H
       have p4 : 0 ≤ (0 : Int) := (by omega)
       have q4 : 0 < a0.size := (by have : (0 : Int) < (a0.size : Int) := of_decide_eq_true (by first | (with_reducible assumption) | assumption); omega)
       have iY : ∀ h : 0 < a0.size,((a0[0]'h).toNat : Int) = bt a0 0 := bq a0 0
       clear p4
       have jT : (0 < (a0.size : Int)) = True := eq_true (of_decide_eq_true (by first | (with_reducible assumption) | assumption))
       replace q4 := eq_true q4
       go_enter Tryz.func50,Tryz.ntmps50
       go_upto_if 15 with (fail)
       go_cut [15] (fun MN wc => ∃ (kq : Nat) (Ha : Bool),MN = .bool Ha ∧ U (aq.j0 kq (bt a0 0) Ha = some r) ∧ U (kq ≤ k) ∧ ah w wc)
       case first=>
        have H := HC9.out
        clear HC9
        by_cases cC : (bt a0 0) = 105
        ·rw [if_pos cC] at H
         have fa : ((bt a0 0) == 105) = true := beq_iff_eq.mpr cC
         have jl : ((bt a0 0) != 105) = false := bne_eq_false_iff_eq.mpr cC
         clear cC
         (first | rw [fa] | (simp only [cL,dr]; rw [fa]) | skip)
         have H' := U.mk H
         clear H
         go_wp2
         go_meet
         case rel => exact ⟨_,(((bt a0 0) == 105)),(by first | rfl | (simp; done) | (simp [*]; done)),H', ⟨by first | omega | exact Nat.le_refl _⟩,by repeat (first | exact ah.refl _ | apply ah.step)⟩
        ·rw [if_neg cC] at H
         have fa : ((bt a0 0) == 105) = false := beq_eq_false_iff_ne.mpr cC
         have jl : ((bt a0 0) != 105) = true := bne_iff_ne.mpr cC
         (first | rw [fa] | (simp only [cL,dr]; rw [fa]) | skip)
         have H' := U.mk H
         clear H
         go_wp2
         go_meet
         case rel => exact ⟨_,(((bt a0 0) == 72)),(by first | rfl | (simp; done) | (simp [*]; done)),H', ⟨by first | omega | exact Nat.le_refl _⟩,by repeat (first | exact ah.refl _ | apply ah.step)⟩
       case rest=>
        clear HC9
        try clear c1
        try clear c2
        try clear df
        try clear eF
        try clear p2
        try clear c3
        try clear cI
        try clear ej
        try clear p4
        try clear q4
        try clear iY
        try clear jT
        try clear c5
        try clear cW
        try clear dH
        try clear c6
        try clear eg
        try clear fR
        try clear c7
        try clear dn
        try clear eZ
        try clear c8
        try clear eD
        try clear jr
        try clear cC
        try clear fa
        try clear jl
        try clear p4
        try clear q4
        obtain ⟨kq,Ha,rfl,HA,Ul,⟨mc8,rfl⟩⟩ := hcut
        cases kq with
        | zero => exact absurd HA.out (by simp [aq.j0])
        | succ YF=>
         have H := HA.out
         clear HA
         simp only [aq.j0] at H
         by_cases bE : Ha = true
         ·subst bE
          have H1 : (some 4) = some r := by rw [if_pos rfl] at H; exact H
          clear H
          have H := H1
          clear H1
          obtain rfl := Option.some.inj H
          go_wp2
          go_ret
          exact ⟨by first | rfl | (simp; done) | (simp [*]; done),by repeat (first | exact ah.refl _ | apply ah.step)⟩
         ·replace bE := Bool.eq_false_iff.mpr bE
          subst bE
          have H1 : (if (bt a0 0) = 117 then (aq.j1 YF (bt a0 0) ((bt a0 0) == 117)) else (aq.j1 YF (bt a0 0) ((bt a0 0) == 104))) = some r := by rw [if_neg (show ¬ (false = true) by decide)] at H; exact H
          clear H
          have H := H1
          clear H1
          have SI := U.mk H
          clear H
          go_upto_if 18 with (fail)
          go_cut [18] (fun v18 wc => ∃ (kq : Nat) (DW : Bool),v18 = .bool DW ∧ U (aq.j1 kq (bt a0 0) DW = some r) ∧ U (kq ≤ YF) ∧ ah w wc)
          case first=>
           have H := SI.out
           clear SI
           by_cases bV : (bt a0 0) = 117
           ·rw [if_pos bV] at H
            have dP : ((bt a0 0) == 117) = true := beq_iff_eq.mpr bV
            have gf : ((bt a0 0) != 117) = false := bne_eq_false_iff_eq.mpr bV
            clear bV
            (first | rw [dP] | (simp only [cL,dr]; rw [dP]) | skip)
            have H' := U.mk H
            clear H
            go_wp2
            go_meet
            case rel => exact ⟨_,(((bt a0 0) == 117)),(by first | rfl | (simp; done) | (simp [*]; done)),H', ⟨by have := Ul.out; first | omega | exact Nat.le_refl _⟩,by repeat (first | exact ah.refl _ | apply ah.step)⟩
           ·rw [if_neg bV] at H
            have dP : ((bt a0 0) == 117) = false := beq_eq_false_iff_ne.mpr bV
            have gf : ((bt a0 0) != 117) = true := bne_iff_ne.mpr bV
            (first | rw [dP] | (simp only [cL,dr]; rw [dP]) | skip)
            have H' := U.mk H
            clear H
            go_wp2
            go_meet
            case rel => exact ⟨_,(((bt a0 0) == 104)),(by first | rfl | (simp; done) | (simp [*]; done)),H', ⟨by have := Ul.out; first | omega | exact Nat.le_refl _⟩,by repeat (first | exact ah.refl _ | apply ah.step)⟩
          case rest=>
           clear SI
           try clear c1
           try clear c2
           try clear df
           try clear eF
           try clear p2
           try clear c3
           try clear cI
           try clear ej
           try clear p4
           try clear q4
           try clear iY
           try clear jT
           try clear c5
           try clear cW
           try clear dH
           try clear c6
           try clear eg
           try clear fR
           try clear c7
           try clear dn
           try clear eZ
           try clear c8
           try clear eD
           try clear jr
           try clear cC
           try clear fa
           try clear jl
           try clear bE
           try clear bV
           try clear dP
           try clear gf
           try clear p2
           try clear p4
           try clear q4
           obtain ⟨kq,DW,rfl,HA,ab7,⟨ahS,rfl⟩⟩ := hcut
           cases kq with
           | zero => exact absurd HA.out (by simp [aq.j1])
           | succ QD=>
            have H := HA.out
            clear HA
            simp only [aq.j1] at H
            by_cases cS : DW = true
            ·subst cS
             have H1 : (some 9) = some r := by rw [if_pos rfl] at H; exact H
             clear H
             have H := H1
             clear H1
             obtain rfl := Option.some.inj H
             go_wp2
             go_ret
             exact ⟨by first | rfl | (simp; done) | (simp [*]; done),by repeat (first | exact ah.refl _ | apply ah.step)⟩
            ·replace cS := Bool.eq_false_iff.mpr cS
             subst cS
             have H1 : (if (bt a0 0) = 120 then (some 5) else (if (bt a0 0) = 116 then (some 10) else (if (bt a0 0) = 100 then (some 11) else (if (bt a0 0) = 115 then (aq.j2 QD (bt a0 0) ((bt a0 0) == 115)) else (aq.j2 QD (bt a0 0) ((bt a0 0) == 111)))))) = some r := by rw [if_neg (show ¬ (false = true) by decide)] at H; exact H
             clear H
             have H := H1
             clear H1
             by_cases dU : (bt a0 0) = 120
             ·rw [if_pos dU] at H
              have jD : ((bt a0 0) == 120) = true := beq_iff_eq.mpr dU
              have kI : ((bt a0 0) != 120) = false := bne_eq_false_iff_eq.mpr dU
              clear dU
              obtain rfl := Option.some.inj H
              go_wp2
              go_ret
              exact ⟨by first | rfl | (simp; done) | (simp [*]; done),by repeat (first | exact ah.refl _ | apply ah.step)⟩
             ·rw [if_neg dU] at H
              have jD : ((bt a0 0) == 120) = false := beq_eq_false_iff_ne.mpr dU
              have kI : ((bt a0 0) != 120) = true := bne_iff_ne.mpr dU
              by_cases eM : (bt a0 0) = 116
              ·rw [if_pos eM] at H
               have ka : ((bt a0 0) == 116) = true := beq_iff_eq.mpr eM
               have xK : ((bt a0 0) != 116) = false := bne_eq_false_iff_eq.mpr eM
               clear eM
               obtain rfl := Option.some.inj H
               go_wp2
               go_ret
               exact ⟨by first | rfl | (simp; done) | (simp [*]; done),by repeat (first | exact ah.refl _ | apply ah.step)⟩
              ·rw [if_neg eM] at H
               have ka : ((bt a0 0) == 116) = false := beq_eq_false_iff_ne.mpr eM
               have xK : ((bt a0 0) != 116) = true := bne_iff_ne.mpr eM
               by_cases fm : (bt a0 0) = 100
               ·rw [if_pos fm] at H
                have kH : ((bt a0 0) == 100) = true := beq_iff_eq.mpr fm
                have xJ : ((bt a0 0) != 100) = false := bne_eq_false_iff_eq.mpr fm
                clear fm
                obtain rfl := Option.some.inj H
                go_wp2
                go_ret
                exact ⟨by first | rfl | (simp; done) | (simp [*]; done),by repeat (first | exact ah.refl _ | apply ah.step)⟩
               ·rw [if_neg fm] at H
                have kH : ((bt a0 0) == 100) = false := beq_eq_false_iff_ne.mpr fm
                have xJ : ((bt a0 0) != 100) = true := bne_iff_ne.mpr fm
                have SG := U.mk H
                clear H
                go_upto_if 27 with (fail)
                go_cut [27] (fun H7 wc => ∃ (kq : Nat) (DS : Bool),H7 = .bool DS ∧ U (aq.j2 kq (bt a0 0) DS = some r) ∧ U (kq ≤ QD) ∧ ah w wc)
                case first=>
                 have H := SG.out
                 clear SG
                 by_cases iw : (bt a0 0) = 115
                 ·rw [if_pos iw] at H
                  have kG : ((bt a0 0) == 115) = true := beq_iff_eq.mpr iw
                  have TU : ((bt a0 0) != 115) = false := bne_eq_false_iff_eq.mpr iw
                  clear iw
                  (first | rw [kG] | (simp only [cL,dr]; rw [kG]) | skip)
                  have H' := U.mk H
                  clear H
                  go_wp2
                  go_meet
                  case rel => exact ⟨_,(((bt a0 0) == 115)),(by first | rfl | (simp; done) | (simp [*]; done)),H', ⟨by have := Ul.out; have := ab7.out; first | omega | exact Nat.le_refl _⟩,by repeat (first | exact ah.refl _ | apply ah.step)⟩
                 ·rw [if_neg iw] at H
                  have kG : ((bt a0 0) == 115) = false := beq_eq_false_iff_ne.mpr iw
                  have TU : ((bt a0 0) != 115) = true := bne_iff_ne.mpr iw
                  (first | rw [kG] | (simp only [cL,dr]; rw [kG]) | skip)
                  have H' := U.mk H
                  clear H
                  go_wp2
                  go_meet
                  case rel => exact ⟨_,(((bt a0 0) == 111)),(by first | rfl | (simp; done) | (simp [*]; done)),H', ⟨by have := Ul.out; have := ab7.out; first | omega | exact Nat.le_refl _⟩,by repeat (first | exact ah.refl _ | apply ah.step)⟩
                case rest=>
                 clear SG
                 try clear c1
                 try clear c2
                 try clear df
                 try clear eF
                 try clear p2
                 try clear c3
                 try clear cI
                 try clear ej
                 try clear p4
                 try clear q4
                 try clear iY
                 try clear jT
                 try clear c5
                 try clear cW
                 try clear dH
                 try clear c6
                 try clear eg
                 try clear fR
                 try clear c7
                 try clear dn
                 try clear eZ
                 try clear c8
                 try clear eD
                 try clear jr
                 try clear cC
                 try clear fa
                 try clear jl
                 try clear bE
                 try clear bV
                 try clear dP
                 try clear gf
                 try clear cS
                 try clear dU
                 try clear jD
                 try clear kI
                 try clear eM
                 try clear ka
                 try clear xK
                 try clear fm
                 try clear kH
                 try clear xJ
                 try clear iw
                 try clear kG
                 try clear TU
                 try clear p2
                 try clear p4
                 try clear q4
                 obtain ⟨kq,DS,rfl,HA,aiE,⟨ahQ,rfl⟩⟩ := hcut
                 cases kq with
                 | zero => exact absurd HA.out (by simp [aq.j2])
                 | succ ahU=>
                  have H := HA.out
                  clear HA
                  simp only [aq.j2] at H
                  by_cases fN : DS = true
                  ·subst fN
                   have H1 : (some 17) = some r := by rw [if_pos rfl] at H; exact H
                   clear H
                   have H := H1
                   clear H1
                   obtain rfl := Option.some.inj H
                   go_wp2
                   go_ret
                   exact ⟨by first | rfl | (simp; done) | (simp [*]; done),by repeat (first | exact ah.refl _ | apply ah.step)⟩
                  ·replace fN := Bool.eq_false_iff.mpr fN
                   subst fN
                   have H1 : (if (bt a0 0) = 91 then (some 16) else (if (bt a0 0) = 123 then (some 14) else (if (bt a0 0) = 42 then (some 13) else (if (bt a0 0) = 103 then (some 18) else (if (bt a0 0) = 118 then (some 18) else (if (bt a0 0) = 40 then (some 18) else (some 0))))))) = some r := by rw [if_neg (show ¬ (false = true) by decide)] at H; exact H
                   clear H
                   have H := H1
                   clear H1
                   by_cases eL : (bt a0 0) = 91
                   ·rw [if_pos eL] at H
                    have gb : ((bt a0 0) == 91) = true := beq_iff_eq.mpr eL
                    have iM : ((bt a0 0) != 91) = false := bne_eq_false_iff_eq.mpr eL
                    clear eL
                    obtain rfl := Option.some.inj H
                    go_wp2
                    go_ret
                    exact ⟨by first | rfl | (simp; done) | (simp [*]; done),by repeat (first | exact ah.refl _ | apply ah.step)⟩
                   ·rw [if_neg eL] at H
                    have gb : ((bt a0 0) == 91) = false := beq_eq_false_iff_ne.mpr eL
                    have iM : ((bt a0 0) != 91) = true := bne_iff_ne.mpr eL
                    by_cases fe : (bt a0 0) = 123
                    ·rw [if_pos fe] at H
                     have j' : ((bt a0 0) == 123) = true := beq_iff_eq.mpr fe
                     have j9 : ((bt a0 0) != 123) = false := bne_eq_false_iff_eq.mpr fe
                     clear fe
                     obtain rfl := Option.some.inj H
                     go_wp2
                     go_ret
                     exact ⟨by first | rfl | (simp; done) | (simp [*]; done),by repeat (first | exact ah.refl _ | apply ah.step)⟩
                    ·rw [if_neg fe] at H
                     have j' : ((bt a0 0) == 123) = false := beq_eq_false_iff_ne.mpr fe
                     have j9 : ((bt a0 0) != 123) = true := bne_iff_ne.mpr fe
                     by_cases lF : (bt a0 0) = 42
                     ·rw [if_pos lF] at H
                      have Hp : ((bt a0 0) == 42) = true := beq_iff_eq.mpr lF
                      have Ho : ((bt a0 0) != 42) = false := bne_eq_false_iff_eq.mpr lF
                      clear lF
                      obtain rfl := Option.some.inj H
                      go_wp2
                      go_ret
                      exact ⟨by first | rfl | (simp; done) | (simp [*]; done),by repeat (first | exact ah.refl _ | apply ah.step)⟩
                     ·rw [if_neg lF] at H
                      have Hp : ((bt a0 0) == 42) = false := beq_eq_false_iff_ne.mpr lF
                      have Ho : ((bt a0 0) != 42) = true := bne_iff_ne.mpr lF
                      by_cases gW : (bt a0 0) = 103
                      ·rw [if_pos gW] at H
                       have TT : ((bt a0 0) == 103) = true := beq_iff_eq.mpr gW
                       have TS : ((bt a0 0) != 103) = false := bne_eq_false_iff_eq.mpr gW
                       clear gW
                       obtain rfl := Option.some.inj H
                       go_wp2
                       go_ret
                       exact ⟨by first | rfl | (simp; done) | (simp [*]; done),by repeat (first | exact ah.refl _ | apply ah.step)⟩
                      ·rw [if_neg gW] at H
                       have TT : ((bt a0 0) == 103) = false := beq_eq_false_iff_ne.mpr gW
                       have TS : ((bt a0 0) != 103) = true := bne_iff_ne.mpr gW
                       by_cases gV : (bt a0 0) = 118
                       ·rw [if_pos gV] at H
                        have Hn : ((bt a0 0) == 118) = true := beq_iff_eq.mpr gV
                        have Hm : ((bt a0 0) != 118) = false := bne_eq_false_iff_eq.mpr gV
                        clear gV
                        obtain rfl := Option.some.inj H
                        go_wp2
                        go_ret
                        exact ⟨by first | rfl | (simp; done) | (simp [*]; done),by repeat (first | exact ah.refl _ | apply ah.step)⟩
                       ·rw [if_neg gV] at H
                        have Hn : ((bt a0 0) == 118) = false := beq_eq_false_iff_ne.mpr gV
                        have Hm : ((bt a0 0) != 118) = true := bne_iff_ne.mpr gV
                        by_cases kV : (bt a0 0) = 40
                        ·rw [if_pos kV] at H
                         have kE : ((bt a0 0) == 40) = true := beq_iff_eq.mpr kV
                         have Cr : ((bt a0 0) != 40) = false := bne_eq_false_iff_eq.mpr kV
                         clear kV
                         obtain rfl := Option.some.inj H
                         go_wp2
                         go_ret
                         exact ⟨by first | rfl | (simp; done) | (simp [*]; done),by repeat (first | exact ah.refl _ | apply ah.step)⟩
                        ·rw [if_neg kV] at H
                         have kE : ((bt a0 0) == 40) = false := beq_eq_false_iff_ne.mpr kV
                         have Cr : ((bt a0 0) != 40) = true := bne_iff_ne.mpr kV
                         obtain rfl := Option.some.inj H
                         go_wp2
                         go_ret
                         exact ⟨by first | rfl | (simp; done) | (simp [*]; done),by repeat (first | exact ah.refl _ | apply ah.step)⟩
  ·rw [if_neg c3] at H
   exact absurd H (by simp)
def dm.f (k : Nat) (a0 : ByteArray) : Option (Bool) := (aq.f k a0).bind fun t181 => (if t181 = 7 then (some true) else (if t181 = 8 then (some true) else (if t181 = 9 then (some true) else (if t181 = 10 then (some true) else (if t181 = 3 then (some true) else (if t181 = 4 then (some true) else (if t181 = 5 then (some true) else (if t181 = 11 then (some true) else (if t181 = 17 then (some true) else (if t181 = 6 then (some true) else (if t181 = 2 then (some true) else (some false))))))))))))
theorem dm.calls (k : Nat) (a0 : ByteArray) (r : Bool) (w : World) (h : dm.f k a0 = some r) :
  Calls Tryz.prog 38 #[.string a0] w fun e w' => e = .returned (.bool r) ∧ ah w w' := by
 have H : ((aq.f k a0).bind fun t181 => (if t181 = 7 then (some true) else (if t181 = 8 then (some true) else (if t181 = 9 then (some true) else (if t181 = 10 then (some true) else (if t181 = 3 then (some true) else (if t181 = 4 then (some true) else (if t181 = 5 then (some true) else (if t181 = 11 then (some true) else (if t181 = 17 then (some true) else (if t181 = 6 then (some true) else (if t181 = 2 then (some true) else (some false))))))))))))) = some r := h
 clear h
 replace H := Option.bind_eq_some_iff.mp H
 obtain ⟨t181,xR,H⟩ := H
 replace H : (if t181 = 7 then (some true) else (if t181 = 8 then (some true) else (if t181 = 9 then (some true) else (if t181 = 10 then (some true) else (if t181 = 3 then (some true) else (if t181 = 4 then (some true) else (if t181 = 5 then (some true) else (if t181 = 11 then (some true) else (if t181 = 17 then (some true) else (if t181 = 6 then (some true) else (if t181 = 2 then (some true) else (some false)))))))))))) = some r := H
 have A2 := U.mk xR
 clear xR
 by_cases c3 : t181 = 7
 ·rw [if_pos c3] at H
  have cI : (t181 == 7) = true := beq_iff_eq.mpr c3
  have ej : (t181 != 7) = false := bne_eq_false_iff_eq.mpr c3
  clear c3
  obtain rfl := Option.some.inj H
  go_enter Tryz.func38,Tryz.ntmps38
  go_wp2_with (first | ((with_reducible refine aW (f := 50) rfl ?_); refine bK (some 4) rfl rfl Tryz.func50 (by kernel_rfl) rfl #[.string a0] rfl (by (try simp only [List.map_toArray,List.map_cons,List.map_nil]); first | done | rfl | (simp only [List.length_drop,List.length_take]; rfl)) ?_; (with_reducible refine (aq.calls k a0 t181 _ A2.out).mono ?_); rintro e w' ⟨rfl,⟨nd,rfl⟩⟩; refine ⟨_,rfl,?_⟩))
  go_ret
  exact ⟨by first | rfl | (simp; done) | (simp [*]; done),by repeat (first | exact ah.refl _ | apply ah.step)⟩
 ·rw [if_neg c3] at H
  have cI : (t181 == 7) = false := beq_eq_false_iff_ne.mpr c3
  have ej : (t181 != 7) = true := bne_iff_ne.mpr c3
  by_cases c4 : t181 = 8
  ·rw [if_pos c4] at H
   have ei : (t181 == 8) = true := beq_iff_eq.mpr c4
   have gl : (t181 != 8) = false := bne_eq_false_iff_eq.mpr c4
   clear c4
   obtain rfl := Option.some.inj H
   go_enter Tryz.func38,Tryz.ntmps38
   go_wp2_with (first | ((with_reducible refine aW (f := 50) rfl ?_); refine bK (some 4) rfl rfl Tryz.func50 (by kernel_rfl) rfl #[.string a0] rfl (by (try simp only [List.map_toArray,List.map_cons,List.map_nil]); first | done | rfl | (simp only [List.length_drop,List.length_take]; rfl)) ?_; (with_reducible refine (aq.calls k a0 t181 _ A2.out).mono ?_); rintro e w' ⟨rfl,⟨nd,rfl⟩⟩; refine ⟨_,rfl,?_⟩))
   go_ret
   exact ⟨by first | rfl | (simp; done) | (simp [*]; done),by repeat (first | exact ah.refl _ | apply ah.step)⟩
  ·rw [if_neg c4] at H
   have ei : (t181 == 8) = false := beq_eq_false_iff_ne.mpr c4
   have gl : (t181 != 8) = true := bne_iff_ne.mpr c4
   by_cases c5 : t181 = 9
   ·rw [if_pos c5] at H
    have cW : (t181 == 9) = true := beq_iff_eq.mpr c5
    have dH : (t181 != 9) = false := bne_eq_false_iff_eq.mpr c5
    clear c5
    obtain rfl := Option.some.inj H
    go_enter Tryz.func38,Tryz.ntmps38
    go_wp2_with (first | ((with_reducible refine aW (f := 50) rfl ?_); refine bK (some 4) rfl rfl Tryz.func50 (by kernel_rfl) rfl #[.string a0] rfl (by (try simp only [List.map_toArray,List.map_cons,List.map_nil]); first | done | rfl | (simp only [List.length_drop,List.length_take]; rfl)) ?_; (with_reducible refine (aq.calls k a0 t181 _ A2.out).mono ?_); rintro e w' ⟨rfl,⟨nd,rfl⟩⟩; refine ⟨_,rfl,?_⟩))
    go_ret
    exact ⟨by first | rfl | (simp; done) | (simp [*]; done),by repeat (first | exact ah.refl _ | apply ah.step)⟩
   ·rw [if_neg c5] at H
    have cW : (t181 == 9) = false := beq_eq_false_iff_ne.mpr c5
    have dH : (t181 != 9) = true := bne_iff_ne.mpr c5
    by_cases c6 : t181 = 10
    ·rw [if_pos c6] at H
     have eg : (t181 == 10) = true := beq_iff_eq.mpr c6
     have fR : (t181 != 10) = false := bne_eq_false_iff_eq.mpr c6
     clear c6
     obtain rfl := Option.some.inj H
     go_enter Tryz.func38,Tryz.ntmps38
     go_wp2_with (first | ((with_reducible refine aW (f := 50) rfl ?_); refine bK (some 4) rfl rfl Tryz.func50 (by kernel_rfl) rfl #[.string a0] rfl (by (try simp only [List.map_toArray,List.map_cons,List.map_nil]); first | done | rfl | (simp only [List.length_drop,List.length_take]; rfl)) ?_; (with_reducible refine (aq.calls k a0 t181 _ A2.out).mono ?_); rintro e w' ⟨rfl,⟨nd,rfl⟩⟩; refine ⟨_,rfl,?_⟩))
     go_ret
     exact ⟨by first | rfl | (simp; done) | (simp [*]; done),by repeat (first | exact ah.refl _ | apply ah.step)⟩
    ·rw [if_neg c6] at H
     have eg : (t181 == 10) = false := beq_eq_false_iff_ne.mpr c6
     have fR : (t181 != 10) = true := bne_iff_ne.mpr c6
     by_cases c7 : t181 = 3
     ·rw [if_pos c7] at H
      have dn : (t181 == 3) = true := beq_iff_eq.mpr c7
      have eZ : (t181 != 3) = false := bne_eq_false_iff_eq.mpr c7
      clear c7
      obtain rfl := Option.some.inj H
      go_enter Tryz.func38,Tryz.ntmps38
      go_wp2_with (first | ((with_reducible refine aW (f := 50) rfl ?_); refine bK (some 4) rfl rfl Tryz.func50 (by kernel_rfl) rfl #[.string a0] rfl (by (try simp only [List.map_toArray,List.map_cons,List.map_nil]); first | done | rfl | (simp only [List.length_drop,List.length_take]; rfl)) ?_; (with_reducible refine (aq.calls k a0 t181 _ A2.out).mono ?_); rintro e w' ⟨rfl,⟨nd,rfl⟩⟩; refine ⟨_,rfl,?_⟩))
      go_ret
      exact ⟨by first | rfl | (simp; done) | (simp [*]; done),by repeat (first | exact ah.refl _ | apply ah.step)⟩
     ·rw [if_neg c7] at H
      have dn : (t181 == 3) = false := beq_eq_false_iff_ne.mpr c7
      have eZ : (t181 != 3) = true := bne_iff_ne.mpr c7
      by_cases c8 : t181 = 4
      ·rw [if_pos c8] at H
       have eD : (t181 == 4) = true := beq_iff_eq.mpr c8
       have jr : (t181 != 4) = false := bne_eq_false_iff_eq.mpr c8
       clear c8
       obtain rfl := Option.some.inj H
       go_enter Tryz.func38,Tryz.ntmps38
       go_wp2_with (first | ((with_reducible refine aW (f := 50) rfl ?_); refine bK (some 4) rfl rfl Tryz.func50 (by kernel_rfl) rfl #[.string a0] rfl (by (try simp only [List.map_toArray,List.map_cons,List.map_nil]); first | done | rfl | (simp only [List.length_drop,List.length_take]; rfl)) ?_; (with_reducible refine (aq.calls k a0 t181 _ A2.out).mono ?_); rintro e w' ⟨rfl,⟨nd,rfl⟩⟩; refine ⟨_,rfl,?_⟩))
       go_ret
       exact ⟨by first | rfl | (simp; done) | (simp [*]; done),by repeat (first | exact ah.refl _ | apply ah.step)⟩
      ·rw [if_neg c8] at H
       have eD : (t181 == 4) = false := beq_eq_false_iff_ne.mpr c8
       have jr : (t181 != 4) = true := bne_iff_ne.mpr c8
       by_cases c9 : t181 = 5
       ·rw [if_pos c9] at H
        have eC : (t181 == 5) = true := beq_iff_eq.mpr c9
        have j8 : (t181 != 5) = false := bne_eq_false_iff_eq.mpr c9
        clear c9
        obtain rfl := Option.some.inj H
        go_enter Tryz.func38,Tryz.ntmps38
        go_wp2_with (first | ((with_reducible refine aW (f := 50) rfl ?_); refine bK (some 4) rfl rfl Tryz.func50 (by kernel_rfl) rfl #[.string a0] rfl (by (try simp only [List.map_toArray,List.map_cons,List.map_nil]); first | done | rfl | (simp only [List.length_drop,List.length_take]; rfl)) ?_; (with_reducible refine (aq.calls k a0 t181 _ A2.out).mono ?_); rintro e w' ⟨rfl,⟨nd,rfl⟩⟩; refine ⟨_,rfl,?_⟩))
        go_ret
        exact ⟨by first | rfl | (simp; done) | (simp [*]; done),by repeat (first | exact ah.refl _ | apply ah.step)⟩
       ·rw [if_neg c9] at H
        have eC : (t181 == 5) = false := beq_eq_false_iff_ne.mpr c9
        have j8 : (t181 != 5) = true := bne_iff_ne.mpr c9
        by_cases cC : t181 = 11
        ·rw [if_pos cC] at H
         have fa : (t181 == 11) = true := beq_iff_eq.mpr cC
         have jl : (t181 != 11) = false := bne_eq_false_iff_eq.mpr cC
         clear cC
         obtain rfl := Option.some.inj H
         go_enter Tryz.func38,Tryz.ntmps38
         go_wp2_with (first | ((with_reducible refine aW (f := 50) rfl ?_); refine bK (some 4) rfl rfl Tryz.func50 (by kernel_rfl) rfl #[.string a0] rfl (by (try simp only [List.map_toArray,List.map_cons,List.map_nil]); first | done | rfl | (simp only [List.length_drop,List.length_take]; rfl)) ?_; (with_reducible refine (aq.calls k a0 t181 _ A2.out).mono ?_); rintro e w' ⟨rfl,⟨nd,rfl⟩⟩; refine ⟨_,rfl,?_⟩))
         go_ret
         exact ⟨by first | rfl | (simp; done) | (simp [*]; done),by repeat (first | exact ah.refl _ | apply ah.step)⟩
        ·rw [if_neg cC] at H
         have fa : (t181 == 11) = false := beq_eq_false_iff_ne.mpr cC
         have jl : (t181 != 11) = true := bne_iff_ne.mpr cC
         by_cases bE : t181 = 17
         ·rw [if_pos bE] at H
          have dJ : (t181 == 17) = true := beq_iff_eq.mpr bE
          have eS : (t181 != 17) = false := bne_eq_false_iff_eq.mpr bE
          clear bE
          obtain rfl := Option.some.inj H
          go_enter Tryz.func38,Tryz.ntmps38
          go_wp2_with (first | ((with_reducible refine aW (f := 50) rfl ?_); refine bK (some 4) rfl rfl Tryz.func50 (by kernel_rfl) rfl #[.string a0] rfl (by (try simp only [List.map_toArray,List.map_cons,List.map_nil]); first | done | rfl | (simp only [List.length_drop,List.length_take]; rfl)) ?_; (with_reducible refine (aq.calls k a0 t181 _ A2.out).mono ?_); rintro e w' ⟨rfl,⟨nd,rfl⟩⟩; refine ⟨_,rfl,?_⟩))
          go_ret
          exact ⟨by first | rfl | (simp; done) | (simp [*]; done),by repeat (first | exact ah.refl _ | apply ah.step)⟩
         ·rw [if_neg bE] at H
          have dJ : (t181 == 17) = false := beq_eq_false_iff_ne.mpr bE
          have eS : (t181 != 17) = true := bne_iff_ne.mpr bE
          by_cases bP : t181 = 6
          ·rw [if_pos bP] at H
           have fj : (t181 == 6) = true := beq_iff_eq.mpr bP
           have jk : (t181 != 6) = false := bne_eq_false_iff_eq.mpr bP
           clear bP
           obtain rfl := Option.some.inj H
           go_enter Tryz.func38,Tryz.ntmps38
           go_wp2_with (first | ((with_reducible refine aW (f := 50) rfl ?_); refine bK (some 4) rfl rfl Tryz.func50 (by kernel_rfl) rfl #[.string a0] rfl (by (try simp only [List.map_toArray,List.map_cons,List.map_nil]); first | done | rfl | (simp only [List.length_drop,List.length_take]; rfl)) ?_; (with_reducible refine (aq.calls k a0 t181 _ A2.out).mono ?_); rintro e w' ⟨rfl,⟨nd,rfl⟩⟩; refine ⟨_,rfl,?_⟩))
           go_ret
           exact ⟨by first | rfl | (simp; done) | (simp [*]; done),by repeat (first | exact ah.refl _ | apply ah.step)⟩
          ·rw [if_neg bP] at H
           have fj : (t181 == 6) = false := beq_eq_false_iff_ne.mpr bP
           have jk : (t181 != 6) = true := bne_iff_ne.mpr bP
           by_cases bV : t181 = 2
           ·rw [if_pos bV] at H
            have dP : (t181 == 2) = true := beq_iff_eq.mpr bV
            have gf : (t181 != 2) = false := bne_eq_false_iff_eq.mpr bV
            clear bV
            obtain rfl := Option.some.inj H
            go_enter Tryz.func38,Tryz.ntmps38
            go_wp2_with (first | ((with_reducible refine aW (f := 50) rfl ?_); refine bK (some 4) rfl rfl Tryz.func50 (by kernel_rfl) rfl #[.string a0] rfl (by (try simp only [List.map_toArray,List.map_cons,List.map_nil]); first | done | rfl | (simp only [List.length_drop,List.length_take]; rfl)) ?_; (with_reducible refine (aq.calls k a0 t181 _ A2.out).mono ?_); rintro e w' ⟨rfl,⟨nd,rfl⟩⟩; refine ⟨_,rfl,?_⟩))
            go_ret
            exact ⟨by first | rfl | (simp; done) | (simp [*]; done),by repeat (first | exact ah.refl _ | apply ah.step)⟩
           ·rw [if_neg bV] at H
            have dP : (t181 == 2) = false := beq_eq_false_iff_ne.mpr bV
            have gf : (t181 != 2) = true := bne_iff_ne.mpr bV
            obtain rfl := Option.some.inj H
            go_enter Tryz.func38,Tryz.ntmps38
            go_wp2_with (first | ((with_reducible refine aW (f := 50) rfl ?_); refine bK (some 4) rfl rfl Tryz.func50 (by kernel_rfl) rfl #[.string a0] rfl (by (try simp only [List.map_toArray,List.map_cons,List.map_nil]); first | done | rfl | (simp only [List.length_drop,List.length_take]; rfl)) ?_; (with_reducible refine (aq.calls k a0 t181 _ A2.out).mono ?_); rintro e w' ⟨rfl,⟨nd,rfl⟩⟩; refine ⟨_,rfl,?_⟩))
            go_ret
            exact ⟨by first | rfl | (simp; done) | (simp [*]; done),by repeat (first | exact ah.refl _ | apply ah.step)⟩
def eY.f (a0 : ByteArray) (a1 : ByteArray) : Option (ByteArray) := if 1 + a0.size ≤ 9223372036854775807 then (if ((⟨#[123]⟩ : ByteArray) ++ a0).size + a1.size ≤ 9223372036854775807 then (some (((⟨#[123]⟩ : ByteArray) ++ a0) ++ a1)) else (none)) else (none)
theorem eY.calls (a0 : ByteArray) (a1 : ByteArray) (r : ByteArray) (w : World) (h : eY.f a0 a1 = some r) :
  Calls Tryz.prog 54 #[.string a0,.string a1] w fun e w' => e = .returned (.string r) ∧ ah w w' := by
 have H : (if 1 + a0.size ≤ 9223372036854775807 then (if ((⟨#[123]⟩ : ByteArray) ++ a0).size + a1.size ≤ 9223372036854775807 then (some (((⟨#[123]⟩ : ByteArray) ++ a0) ++ a1)) else (none)) else (none)) = some r := h
 clear h
 by_cases c3 : 1 + a0.size ≤ 9223372036854775807
 ·rw [if_pos c3] at H
  have cI := eq_true c3
  have ej : decide (1 + a0.size ≤ 9223372036854775807) = true := decide_eq_true c3
  try have aio : (9223372036854775807 < 1 + a0.size) = False := eq_false (Nat.not_lt.2 c3)
  by_cases c4 : ((⟨#[123]⟩ : ByteArray) ++ a0).size + a1.size ≤ 9223372036854775807
  ·rw [if_pos c4] at H
   have ei := eq_true c4
   have gl : decide (((⟨#[123]⟩ : ByteArray) ++ a0).size + a1.size ≤ 9223372036854775807) = true := decide_eq_true c4
   try have ain : (9223372036854775807 < ((⟨#[123]⟩ : ByteArray) ++ a0).size + a1.size) = False := eq_false (Nat.not_lt.2 c4)
   (try have c4e : 1 + a0.size + a1.size ≤ 9223372036854775807 := by (have h_ := c4; simp only [ByteArray.size_append] at h_; exact h_))
   (try have aim := eq_true c4e)
   (try have ail : decide (1 + a0.size + a1.size ≤ 9223372036854775807) = true := decide_eq_true c4e)
   (try have aik : (9223372036854775807 < 1 + a0.size + a1.size) = False := eq_false (Nat.not_lt.2 c4e))
   obtain rfl := Option.some.inj H
   go_enter Tryz.func54,Tryz.ntmps54
   go_wp2
   go_ret
   exact ⟨by first | rfl | (simp; done) | (simp [*]; done),by repeat (first | exact ah.refl _ | apply ah.step)⟩
  ·rw [if_neg c4] at H
   exact absurd H (by simp)
 ·rw [if_neg c3] at H
  exact absurd H (by simp)
def ef.f (a0 : ByteArray) : Option (ByteArray) := if 1 + a0.size ≤ 9223372036854775807 then (some ((⟨#[91]⟩ : ByteArray) ++ a0)) else (none)
theorem ef.calls (a0 : ByteArray) (r : ByteArray) (w : World) (h : ef.f a0 = some r) :
  Calls Tryz.prog 55 #[.string a0] w fun e w' => e = .returned (.string r) ∧ ah w w' := by
 have H : (if 1 + a0.size ≤ 9223372036854775807 then (some ((⟨#[91]⟩ : ByteArray) ++ a0)) else (none)) = some r := h
 clear h
 by_cases c2 : 1 + a0.size ≤ 9223372036854775807
 ·rw [if_pos c2] at H
  have df := eq_true c2
  have eF : decide (1 + a0.size ≤ 9223372036854775807) = true := decide_eq_true c2
  try have aip : (9223372036854775807 < 1 + a0.size) = False := eq_false (Nat.not_lt.2 c2)
  obtain rfl := Option.some.inj H
  go_enter Tryz.func55,Tryz.ntmps55
  go_wp2
  go_ret
  exact ⟨by first | rfl | (simp; done) | (simp [*]; done),by repeat (first | exact ah.refl _ | apply ah.step)⟩
 ·rw [if_neg c2] at H
  exact absurd H (by simp)




def b8.f (k : Nat) (a0 : ByteArray) : Option (ByteArray) := (aq.f k a0).bind fun t182 => (if t182 = 14 then (if 2 ≤ (a0.size : Int) then (some (a0.extract 2 a0.size)) else (none)) else (if 1 ≤ (a0.size : Int) then (some (a0.extract 1 a0.size)) else (none)))
theorem b8.calls (k : Nat) (a0 : ByteArray) (r : ByteArray) (w : World) (h : b8.f k a0 = some r) :
  Calls Tryz.prog 74 #[.string a0] w fun e w' => e = .returned (.string r) ∧ ah w w' := by
 have H : ((aq.f k a0).bind fun t182 => (if t182 = 14 then (if 2 ≤ (a0.size : Int) then (some (a0.extract 2 a0.size)) else (none)) else (if 1 ≤ (a0.size : Int) then (some (a0.extract 1 a0.size)) else (none)))) = some r := h
 clear h
 replace H := Option.bind_eq_some_iff.mp H
 obtain ⟨t182,xR,H⟩ := H
 replace H : (if t182 = 14 then (if 2 ≤ (a0.size : Int) then (some (a0.extract 2 a0.size)) else (none)) else (if 1 ≤ (a0.size : Int) then (some (a0.extract 1 a0.size)) else (none))) = some r := H
 have A2 := U.mk xR
 clear xR
 by_cases c3 : t182 = 14
 ·rw [if_pos c3] at H
  have cI : (t182 == 14) = true := beq_iff_eq.mpr c3
  have ej : (t182 != 14) = false := bne_eq_false_iff_eq.mpr c3
  clear c3
  by_cases c4 : 2 ≤ (a0.size : Int)
  ·rw [if_pos c4] at H
   have ei := eq_true c4
   have gl : decide (2 ≤ (a0.size : Int)) = true := decide_eq_true c4
   clear c4
   obtain rfl := Option.some.inj H
   go_enter Tryz.func74,Tryz.ntmps74
   go_wp2_with (first | ((with_reducible refine aW (f := 50) rfl ?_); refine bK (some 4) rfl rfl Tryz.func50 (by kernel_rfl) rfl #[.string a0] rfl (by (try simp only [List.map_toArray,List.map_cons,List.map_nil]); first | done | rfl | (simp only [List.length_drop,List.length_take]; rfl)) ?_; (with_reducible refine (aq.calls k a0 t182 _ A2.out).mono ?_); rintro e w' ⟨rfl,⟨nd,rfl⟩⟩; refine ⟨_,rfl,?_⟩))
   go_ret
   exact ⟨by first | rfl | (simp; done) | (simp [*]; done),by repeat (first | exact ah.refl _ | apply ah.step)⟩
  ·rw [if_neg c4] at H
   exact absurd H (by simp)
 ·rw [if_neg c3] at H
  have cI : (t182 == 14) = false := beq_eq_false_iff_ne.mpr c3
  have ej : (t182 != 14) = true := bne_iff_ne.mpr c3
  by_cases c5 : 1 ≤ (a0.size : Int)
  ·rw [if_pos c5] at H
   have cW := eq_true c5
   have dH : decide (1 ≤ (a0.size : Int)) = true := decide_eq_true c5
   clear c5
   obtain rfl := Option.some.inj H
   go_enter Tryz.func74,Tryz.ntmps74
   go_wp2_with (first | ((with_reducible refine aW (f := 50) rfl ?_); refine bK (some 4) rfl rfl Tryz.func50 (by kernel_rfl) rfl #[.string a0] rfl (by (try simp only [List.map_toArray,List.map_cons,List.map_nil]); first | done | rfl | (simp only [List.length_drop,List.length_take]; rfl)) ?_; (with_reducible refine (aq.calls k a0 t182 _ A2.out).mono ?_); rintro e w' ⟨rfl,⟨nd,rfl⟩⟩; refine ⟨_,rfl,?_⟩))
   go_ret
   exact ⟨by first | rfl | (simp; done) | (simp [*]; done),by repeat (first | exact ah.refl _ | apply ah.step)⟩
  ·rw [if_neg c5] at H
   exact absurd H (by simp)
end Go.Proofs.YtkdebhgccpfkiaaGreatDoor.au
namespace Go.Proofs.YtkdebhgccpfkiaaGreatDoor.au
open Go.RowKit Go.Proofs.aa.az Go.Proofs.aa.aM Go.Proofs.aa.aU
attribute [local go_sem] ba bh
set_option linter.unusedVariables false
set_option linter.unusedSimpArgs false
mutual
def ay.j0 : Nat → ByteArray → Int → Bool → Option (Int)
 | 0,_,_,_ => none
 | k + 1,x0,eW,C7 => if C7 = true then (some 2) else (if eW = 6 then (ay.j1 k x0 eW (eW == 6)) else (if eW = 2 then (ay.j1 k x0 eW (eW == 2)) else (if eW = 9 then (ay.j1 k x0 eW (eW == 9)) else (if eW = 4 then (ay.j1 k x0 eW (eW == 4)) else (if eW = 17 then (ay.j1 k x0 eW (eW == 17)) else (if eW = 12 then (ay.j1 k x0 eW (eW == 12)) else (if eW = 16 then (ay.j1 k x0 eW (eW == 16)) else (ay.j1 k x0 eW (eW == 14)))))))))
def ay.j1 : Nat → ByteArray → Int → Bool → Option (Int)
 | 0,_,_,_ => none
 | k + 1,x0,eW,x19 => if x19 = true then (some 4) else (if eW = 10 then (ay.j2 k x0 eW (eW == 10)) else (if eW = 5 then (ay.j2 k x0 eW (eW == 5)) else (if eW = 11 then (ay.j2 k x0 eW (eW == 11)) else (ay.j2 k x0 eW (eW == 18)))))
def ay.j2 : Nat → ByteArray → Int → Bool → Option (Int)
 | 0,_,_,_ => none
 | k + 1,x0,eW,x28 => if x28 = true then (some 8) else (if eW = 15 then ((b8.f k x0).bind fun t184 => ((ay.f k t184).bind fun t185 => (some t185))) else (some 1))
def ay.f : Nat → ByteArray → Option (Int)
 | 0,_ => none
 | k + 1,a0 => if a0.toList = ([118] : List UInt8) then (some 1) else (if a0.toList = ([111] : List UInt8) then (some 4) else (if a0.toList = ([103] : List UInt8) then (some 1) else (if a0.toList = ([91,42] : List UInt8) then (some 4) else ((aq.f k a0).bind fun t183 => (if t183 = 7 then (some 1) else (if t183 = 8 then (ay.j0 k a0 t183 (t183 == 8)) else (ay.j0 k a0 t183 (t183 == 3))))))))
end
theorem ay.calls (k : Nat) : ∀ (a0 : ByteArray) (r : Int) (w : World) (h : ay.f k a0 = some r),
  Calls Tryz.prog 60 #[.string a0] w fun e w' => e = .returned (.int .i64 r) ∧ ah w w' := by
 induction k using Nat.strongRecOn with
 | _ k ih=>
 intro a0 r w h
 cases k with
 | zero => exact absurd h (by simp [ay.f])
 | succ k=>
 simp only [ay.f] at h
 have H : (if a0.toList = ([118] : List UInt8) then (some 1) else (if a0.toList = ([111] : List UInt8) then (some 4) else (if a0.toList = ([103] : List UInt8) then (some 1) else (if a0.toList = ([91,42] : List UInt8) then (some 4) else ((aq.f k a0).bind fun t183 => (if t183 = 7 then (some 1) else (if t183 = 8 then (ay.j0 k a0 t183 (t183 == 8)) else (ay.j0 k a0 t183 (t183 == 3))))))))) = some r := h
 clear h
 by_cases c2 : a0.toList = ([118] : List UInt8)
 ·rw [if_pos c2] at H
  have df : (a0.toList == ([118] : List UInt8)) = true := beq_iff_eq.mpr c2
  have eF : (a0.toList != ([118] : List UInt8)) = false := bne_eq_false_iff_eq.mpr c2
  clear c2
  obtain rfl := Option.some.inj H
  go_enter Tryz.func60,Tryz.ntmps60
  go_wp2
  go_ret
  exact ⟨by first | rfl | (simp; done) | (simp [*]; done),by repeat (first | exact ah.refl _ | apply ah.step)⟩
 ·rw [if_neg c2] at H
  have df : (a0.toList == ([118] : List UInt8)) = false := beq_eq_false_iff_ne.mpr c2
  have eF : (a0.toList != ([118] : List UInt8)) = true := bne_iff_ne.mpr c2
  by_cases c3 : a0.toList = ([111] : List UInt8)
  ·rw [if_pos c3] at H
   have cI : (a0.toList == ([111] : List UInt8)) = true := beq_iff_eq.mpr c3
   have ej : (a0.toList != ([111] : List UInt8)) = false := bne_eq_false_iff_eq.mpr c3
   clear c3
   obtain rfl := Option.some.inj H
   go_enter Tryz.func60,Tryz.ntmps60
   go_wp2
   go_ret
   exact ⟨by first | rfl | (simp; done) | (simp [*]; done),by repeat (first | exact ah.refl _ | apply ah.step)⟩
  ·rw [if_neg c3] at H
   have cI : (a0.toList == ([111] : List UInt8)) = false := beq_eq_false_iff_ne.mpr c3
   have ej : (a0.toList != ([111] : List UInt8)) = true := bne_iff_ne.mpr c3
   by_cases c4 : a0.toList = ([103] : List UInt8)
   ·rw [if_pos c4] at H
    have ei : (a0.toList == ([103] : List UInt8)) = true := beq_iff_eq.mpr c4
    have gl : (a0.toList != ([103] : List UInt8)) = false := bne_eq_false_iff_eq.mpr c4
    clear c4
    obtain rfl := Option.some.inj H
    go_enter Tryz.func60,Tryz.ntmps60
    go_wp2
    go_ret
    exact ⟨by first | rfl | (simp; done) | (simp [*]; done),by repeat (first | exact ah.refl _ | apply ah.step)⟩
   ·rw [if_neg c4] at H
    have ei : (a0.toList == ([103] : List UInt8)) = false := beq_eq_false_iff_ne.mpr c4
    have gl : (a0.toList != ([103] : List UInt8)) = true := bne_iff_ne.mpr c4
    by_cases c5 : a0.toList = ([91,42] : List UInt8)
    ·rw [if_pos c5] at H
     have cW : (a0.toList == ([91,42] : List UInt8)) = true := beq_iff_eq.mpr c5
     have dH : (a0.toList != ([91,42] : List UInt8)) = false := bne_eq_false_iff_eq.mpr c5
     clear c5
     obtain rfl := Option.some.inj H
     go_enter Tryz.func60,Tryz.ntmps60
     go_wp2
     go_ret
     exact ⟨by first | rfl | (simp; done) | (simp [*]; done),by repeat (first | exact ah.refl _ | apply ah.step)⟩
    ·rw [if_neg c5] at H
     have cW : (a0.toList == ([91,42] : List UInt8)) = false := beq_eq_false_iff_ne.mpr c5
     have dH : (a0.toList != ([91,42] : List UInt8)) = true := bne_iff_ne.mpr c5
     replace H := Option.bind_eq_some_iff.mp H
     obtain ⟨t183,PS,H⟩ := H
     replace H : (if t183 = 7 then (some 1) else (if t183 = 8 then (ay.j0 k a0 t183 (t183 == 8)) else (ay.j0 k a0 t183 (t183 == 3)))) = some r := H
     have A6 := U.mk PS
     clear PS
     by_cases c7 : t183 = 7
     ·rw [if_pos c7] at H
      have dn : (t183 == 7) = true := beq_iff_eq.mpr c7
      have eZ : (t183 != 7) = false := bne_eq_false_iff_eq.mpr c7
      clear c7
      obtain rfl := Option.some.inj H
      go_enter Tryz.func60,Tryz.ntmps60
      go_wp2_with (first | ((with_reducible refine aW (f := 50) rfl ?_); refine bK (some 13) rfl rfl Tryz.func50 (by kernel_rfl) rfl #[.string a0] rfl (by (try simp only [List.map_toArray,List.map_cons,List.map_nil]); first | done | rfl | (simp only [List.length_drop,List.length_take]; rfl)) ?_; (with_reducible refine (aq.calls k a0 t183 _ A6.out).mono ?_); rintro e w' ⟨rfl,⟨nd,rfl⟩⟩; refine ⟨_,rfl,?_⟩))
      go_ret
      exact ⟨by first | rfl | (simp; done) | (simp [*]; done),by repeat (first | exact ah.refl _ | apply ah.step)⟩
     ·rw [if_neg c7] at H
      have dn : (t183 == 7) = false := beq_eq_false_iff_ne.mpr c7
      have eZ : (t183 != 7) = true := bne_iff_ne.mpr c7
      have HC8 := U.mk H
      clear H
      go_enter Tryz.func60,Tryz.ntmps60
      go_upto_if 16 with (first | ((with_reducible refine aW (f := 50) rfl ?_); refine bK (some 13) rfl rfl Tryz.func50 (by kernel_rfl) rfl #[.string a0] rfl (by (try simp only [List.map_toArray,List.map_cons,List.map_nil]); first | done | rfl | (simp only [List.length_drop,List.length_take]; rfl)) ?_; (with_reducible refine (aq.calls k a0 t183 _ A6.out).mono ?_); rintro e w' ⟨rfl,⟨nd,rfl⟩⟩; refine ⟨_,rfl,?_⟩))
      (try simp only [Act.put,List.setIfInBounds_toArray,List.set_cons_zero,List.set_cons_succ])
      go_cut [16] (fun MM wc => ∃ (kq : Nat) (G' : Bool),MM = .bool G' ∧ U (ay.j0 kq a0 t183 G' = some r) ∧ U (kq ≤ k) ∧ ah w wc)
      case first=>
       have H := HC8.out
       clear HC8
       by_cases c9 : t183 = 8
       ·rw [if_pos c9] at H
        have eC : (t183 == 8) = true := beq_iff_eq.mpr c9
        have j8 : (t183 != 8) = false := bne_eq_false_iff_eq.mpr c9
        clear c9
        (first | rw [eC] | (simp only [cL,dr]; rw [eC]) | skip)
        have H' := U.mk H
        clear H
        go_wp2
        go_meet
        case rel => exact ⟨_,((t183 == 8)),(by first | rfl | (simp; done) | (simp [*]; done)),H', ⟨by first | omega | exact Nat.le_refl _⟩,by repeat (first | exact ah.refl _ | apply ah.step)⟩
       ·rw [if_neg c9] at H
        have eC : (t183 == 8) = false := beq_eq_false_iff_ne.mpr c9
        have j8 : (t183 != 8) = true := bne_iff_ne.mpr c9
        (first | rw [eC] | (simp only [cL,dr]; rw [eC]) | skip)
        have H' := U.mk H
        clear H
        go_wp2
        go_meet
        case rel => exact ⟨_,((t183 == 3)),(by first | rfl | (simp; done) | (simp [*]; done)),H', ⟨by first | omega | exact Nat.le_refl _⟩,by repeat (first | exact ah.refl _ | apply ah.step)⟩
      case rest=>
       clear HC8
       try clear c2
       try clear df
       try clear eF
       try clear p2
       try clear c3
       try clear cI
       try clear ej
       try clear c4
       try clear ei
       try clear gl
       try clear c5
       try clear cW
       try clear dH
       try clear c6
       try clear c7
       try clear dn
       try clear eZ
       try clear c9
       try clear eC
       try clear j8
       obtain ⟨kq,G', rfl,HA,zP,⟨mc7,rfl⟩⟩ := hcut
       cases kq with
       | zero => exact absurd HA.out (by simp [ay.j0])
       | succ Eb=>
        have H := HA.out
        clear HA
        simp only [ay.j0] at H
        by_cases cC : G' = true
        ·subst cC
         have H1 : (some 2) = some r := by rw [if_pos rfl] at H; exact H
         clear H
         have H := H1
         clear H1
         obtain rfl := Option.some.inj H
         go_wp2
         go_ret
         exact ⟨by first | rfl | (simp; done) | (simp [*]; done),by repeat (first | exact ah.refl _ | apply ah.step)⟩
        ·replace cC := Bool.eq_false_iff.mpr cC
         subst cC
         have H1 : (if t183 = 6 then (ay.j1 Eb a0 t183 (t183 == 6)) else (if t183 = 2 then (ay.j1 Eb a0 t183 (t183 == 2)) else (if t183 = 9 then (ay.j1 Eb a0 t183 (t183 == 9)) else (if t183 = 4 then (ay.j1 Eb a0 t183 (t183 == 4)) else (if t183 = 17 then (ay.j1 Eb a0 t183 (t183 == 17)) else (if t183 = 12 then (ay.j1 Eb a0 t183 (t183 == 12)) else (if t183 = 16 then (ay.j1 Eb a0 t183 (t183 == 16)) else (ay.j1 Eb a0 t183 (t183 == 14))))))))) = some r := by rw [if_neg (show ¬ (false = true) by decide)] at H; exact H
         clear H
         have H := H1
         clear H1
         have SJ := U.mk H
         clear H
         go_upto_if 19 with (fail)
         go_cut [19] (fun ML wc => ∃ (kq : Nat) (DU : Bool),ML = .bool DU ∧ U (ay.j1 kq a0 t183 DU = some r) ∧ U (kq ≤ Eb) ∧ ah w wc)
         case first=>
          have H := SJ.out
          clear SJ
          by_cases bP : t183 = 6
          ·rw [if_pos bP] at H
           have fj : (t183 == 6) = true := beq_iff_eq.mpr bP
           have jk : (t183 != 6) = false := bne_eq_false_iff_eq.mpr bP
           clear bP
           (first | rw [fj] | (simp only [cL,dr]; rw [fj]) | skip)
           have H' := U.mk H
           clear H
           go_wp2
           go_meet
           case rel => exact ⟨_,((t183 == 6)),(by first | rfl | (simp; done) | (simp [*]; done)),H', ⟨by have := zP.out; first | omega | exact Nat.le_refl _⟩,by repeat (first | exact ah.refl _ | apply ah.step)⟩
          ·rw [if_neg bP] at H
           have fj : (t183 == 6) = false := beq_eq_false_iff_ne.mpr bP
           have jk : (t183 != 6) = true := bne_iff_ne.mpr bP
           (first | rw [fj] | (simp only [cL,dr]; rw [fj]) | skip)
           by_cases bV : t183 = 2
           ·rw [if_pos bV] at H
            have dP : (t183 == 2) = true := beq_iff_eq.mpr bV
            have gf : (t183 != 2) = false := bne_eq_false_iff_eq.mpr bV
            clear bV
            have H' := U.mk H
            clear H
            go_wp2
            go_meet
            case rel => exact ⟨_,((t183 == 2)),(by first | rfl | (simp; done) | (simp [*]; done)),H', ⟨by have := zP.out; first | omega | exact Nat.le_refl _⟩,by repeat (first | exact ah.refl _ | apply ah.step)⟩
           ·rw [if_neg bV] at H
            have dP : (t183 == 2) = false := beq_eq_false_iff_ne.mpr bV
            have gf : (t183 != 2) = true := bne_iff_ne.mpr bV
            by_cases cS : t183 = 9
            ·rw [if_pos cS] at H
             have iO : (t183 == 9) = true := beq_iff_eq.mpr cS
             have kJ : (t183 != 9) = false := bne_eq_false_iff_eq.mpr cS
             clear cS
             have H' := U.mk H
             clear H
             go_wp2
             go_meet
             case rel => exact ⟨_,((t183 == 9)),(by first | rfl | (simp; done) | (simp [*]; done)),H', ⟨by have := zP.out; first | omega | exact Nat.le_refl _⟩,by repeat (first | exact ah.refl _ | apply ah.step)⟩
            ·rw [if_neg cS] at H
             have iO : (t183 == 9) = false := beq_eq_false_iff_ne.mpr cS
             have kJ : (t183 != 9) = true := bne_iff_ne.mpr cS
             by_cases dU : t183 = 4
             ·rw [if_pos dU] at H
              have jD : (t183 == 4) = true := beq_iff_eq.mpr dU
              have kI : (t183 != 4) = false := bne_eq_false_iff_eq.mpr dU
              clear dU
              have H' := U.mk H
              clear H
              go_wp2
              go_meet
              case rel => exact ⟨_,((t183 == 4)),(by first | rfl | (simp; done) | (simp [*]; done)),H', ⟨by have := zP.out; first | omega | exact Nat.le_refl _⟩,by repeat (first | exact ah.refl _ | apply ah.step)⟩
             ·rw [if_neg dU] at H
              have jD : (t183 == 4) = false := beq_eq_false_iff_ne.mpr dU
              have kI : (t183 != 4) = true := bne_iff_ne.mpr dU
              by_cases eM : t183 = 17
              ·rw [if_pos eM] at H
               have ka : (t183 == 17) = true := beq_iff_eq.mpr eM
               have xK : (t183 != 17) = false := bne_eq_false_iff_eq.mpr eM
               clear eM
               have H' := U.mk H
               clear H
               go_wp2
               go_meet
               case rel => exact ⟨_,((t183 == 17)),(by first | rfl | (simp; done) | (simp [*]; done)),H', ⟨by have := zP.out; first | omega | exact Nat.le_refl _⟩,by repeat (first | exact ah.refl _ | apply ah.step)⟩
              ·rw [if_neg eM] at H
               have ka : (t183 == 17) = false := beq_eq_false_iff_ne.mpr eM
               have xK : (t183 != 17) = true := bne_iff_ne.mpr eM
               by_cases fm : t183 = 12
               ·rw [if_pos fm] at H
                have kH : (t183 == 12) = true := beq_iff_eq.mpr fm
                have xJ : (t183 != 12) = false := bne_eq_false_iff_eq.mpr fm
                clear fm
                have H' := U.mk H
                clear H
                go_wp2
                go_meet
                case rel => exact ⟨_,((t183 == 12)),(by first | rfl | (simp; done) | (simp [*]; done)),H', ⟨by have := zP.out; first | omega | exact Nat.le_refl _⟩,by repeat (first | exact ah.refl _ | apply ah.step)⟩
               ·rw [if_neg fm] at H
                have kH : (t183 == 12) = false := beq_eq_false_iff_ne.mpr fm
                have xJ : (t183 != 12) = true := bne_iff_ne.mpr fm
                by_cases fk : t183 = 16
                ·rw [if_pos fk] at H
                 have iN : (t183 == 16) = true := beq_iff_eq.mpr fk
                 have lJ : (t183 != 16) = false := bne_eq_false_iff_eq.mpr fk
                 clear fk
                 have H' := U.mk H
                 clear H
                 go_wp2
                 go_meet
                 case rel => exact ⟨_,((t183 == 16)),(by first | rfl | (simp; done) | (simp [*]; done)),H', ⟨by have := zP.out; first | omega | exact Nat.le_refl _⟩,by repeat (first | exact ah.refl _ | apply ah.step)⟩
                ·rw [if_neg fk] at H
                 have iN : (t183 == 16) = false := beq_eq_false_iff_ne.mpr fk
                 have lJ : (t183 != 16) = true := bne_iff_ne.mpr fk
                 have H' := U.mk H
                 clear H
                 go_wp2
                 go_meet
                 case rel => exact ⟨_,((t183 == 14)),(by first | rfl | (simp; done) | (simp [*]; done)),H', ⟨by have := zP.out; first | omega | exact Nat.le_refl _⟩,by repeat (first | exact ah.refl _ | apply ah.step)⟩
         case rest=>
          clear SJ
          try clear c1
          try clear c2
          try clear df
          try clear eF
          try clear p2
          try clear c3
          try clear cI
          try clear ej
          try clear c4
          try clear ei
          try clear gl
          try clear c5
          try clear cW
          try clear dH
          try clear c6
          try clear c7
          try clear dn
          try clear eZ
          try clear c9
          try clear eC
          try clear j8
          try clear cC
          try clear bP
          try clear fj
          try clear jk
          try clear bV
          try clear dP
          try clear gf
          try clear cS
          try clear iO
          try clear kJ
          try clear dU
          try clear jD
          try clear kI
          try clear eM
          try clear ka
          try clear xK
          try clear fm
          try clear kH
          try clear xJ
          try clear fk
          try clear iN
          try clear lJ
          try clear p2
          obtain ⟨kq,DU,rfl,HA,J3,⟨ahT,rfl⟩⟩ := hcut
          cases kq with
          | zero => exact absurd HA.out (by simp [ay.j1])
          | succ IQ=>
           have H := HA.out
           clear HA
           simp only [ay.j1] at H
           by_cases iw : DU = true
           ·subst iw
            have H1 : (some 4) = some r := by rw [if_pos rfl] at H; exact H
            clear H
            have H := H1
            clear H1
            obtain rfl := Option.some.inj H
            go_wp2
            go_ret
            exact ⟨by first | rfl | (simp; done) | (simp [*]; done),by repeat (first | exact ah.refl _ | apply ah.step)⟩
           ·replace iw := Bool.eq_false_iff.mpr iw
            subst iw
            have H1 : (if t183 = 10 then (ay.j2 IQ a0 t183 (t183 == 10)) else (if t183 = 5 then (ay.j2 IQ a0 t183 (t183 == 5)) else (if t183 = 11 then (ay.j2 IQ a0 t183 (t183 == 11)) else (ay.j2 IQ a0 t183 (t183 == 18))))) = some r := by rw [if_neg (show ¬ (false = true) by decide)] at H; exact H
            clear H
            have H := H1
            clear H1
            have SF := U.mk H
            clear H
            go_upto_if 28 with (fail)
            go_cut [28] (fun v28 wc => ∃ (kq : Nat) (DR : Bool),v28 = .bool DR ∧ U (ay.j2 kq a0 t183 DR = some r) ∧ U (kq ≤ IQ) ∧ ah w wc)
            case first=>
             have H := SF.out
             clear SF
             by_cases eL : t183 = 10
             ·rw [if_pos eL] at H
              have gb : (t183 == 10) = true := beq_iff_eq.mpr eL
              have iM : (t183 != 10) = false := bne_eq_false_iff_eq.mpr eL
              clear eL
              (first | rw [gb] | (simp only [cL,dr]; rw [gb]) | skip)
              have H' := U.mk H
              clear H
              go_wp2
              go_meet
              case rel => exact ⟨_,((t183 == 10)),(by first | rfl | (simp; done) | (simp [*]; done)),H', ⟨by have := zP.out; have := J3.out; first | omega | exact Nat.le_refl _⟩,by repeat (first | exact ah.refl _ | apply ah.step)⟩
             ·rw [if_neg eL] at H
              have gb : (t183 == 10) = false := beq_eq_false_iff_ne.mpr eL
              have iM : (t183 != 10) = true := bne_iff_ne.mpr eL
              (first | rw [gb] | (simp only [cL,dr]; rw [gb]) | skip)
              by_cases fe : t183 = 5
              ·rw [if_pos fe] at H
               have j' : (t183 == 5) = true := beq_iff_eq.mpr fe
               have j9 : (t183 != 5) = false := bne_eq_false_iff_eq.mpr fe
               clear fe
               have H' := U.mk H
               clear H
               go_wp2
               go_meet
               case rel => exact ⟨_,((t183 == 5)),(by first | rfl | (simp; done) | (simp [*]; done)),H', ⟨by have := zP.out; have := J3.out; first | omega | exact Nat.le_refl _⟩,by repeat (first | exact ah.refl _ | apply ah.step)⟩
              ·rw [if_neg fe] at H
               have j' : (t183 == 5) = false := beq_eq_false_iff_ne.mpr fe
               have j9 : (t183 != 5) = true := bne_iff_ne.mpr fe
               by_cases lF : t183 = 11
               ·rw [if_pos lF] at H
                have Hp : (t183 == 11) = true := beq_iff_eq.mpr lF
                have Ho : (t183 != 11) = false := bne_eq_false_iff_eq.mpr lF
                clear lF
                have H' := U.mk H
                clear H
                go_wp2
                go_meet
                case rel => exact ⟨_,((t183 == 11)),(by first | rfl | (simp; done) | (simp [*]; done)),H', ⟨by have := zP.out; have := J3.out; first | omega | exact Nat.le_refl _⟩,by repeat (first | exact ah.refl _ | apply ah.step)⟩
               ·rw [if_neg lF] at H
                have Hp : (t183 == 11) = false := beq_eq_false_iff_ne.mpr lF
                have Ho : (t183 != 11) = true := bne_iff_ne.mpr lF
                have H' := U.mk H
                clear H
                go_wp2
                go_meet
                case rel => exact ⟨_,((t183 == 18)),(by first | rfl | (simp; done) | (simp [*]; done)),H', ⟨by have := zP.out; have := J3.out; first | omega | exact Nat.le_refl _⟩,by repeat (first | exact ah.refl _ | apply ah.step)⟩
            case rest=>
             clear SF
             try clear c1
             try clear c2
             try clear df
             try clear eF
             try clear p2
             try clear c3
             try clear cI
             try clear ej
             try clear c4
             try clear ei
             try clear gl
             try clear c5
             try clear cW
             try clear dH
             try clear c6
             try clear c7
             try clear dn
             try clear eZ
             try clear c9
             try clear eC
             try clear j8
             try clear cC
             try clear bP
             try clear fj
             try clear jk
             try clear bV
             try clear dP
             try clear gf
             try clear cS
             try clear iO
             try clear kJ
             try clear dU
             try clear jD
             try clear kI
             try clear eM
             try clear ka
             try clear xK
             try clear fm
             try clear kH
             try clear xJ
             try clear fk
             try clear iN
             try clear lJ
             try clear iw
             try clear eL
             try clear gb
             try clear iM
             try clear fe
             try clear j'
             try clear j9
             try clear lF
             try clear Hp
             try clear Ho
             try clear p2
             obtain ⟨kq,DR,rfl,HA,afZ,⟨ahP,rfl⟩⟩ := hcut
             cases kq with
             | zero => exact absurd HA.out (by simp [ay.j2])
             | succ IP=>
              have H := HA.out
              clear HA
              simp only [ay.j2] at H
              by_cases gW : DR = true
              ·subst gW
               have H1 : (some 8) = some r := by rw [if_pos rfl] at H; exact H
               clear H
               have H := H1
               clear H1
               obtain rfl := Option.some.inj H
               go_wp2
               go_ret
               exact ⟨by first | rfl | (simp; done) | (simp [*]; done),by repeat (first | exact ah.refl _ | apply ah.step)⟩
              ·replace gW := Bool.eq_false_iff.mpr gW
               subst gW
               have H1 : (if t183 = 15 then ((b8.f IP a0).bind fun t184 => ((ay.f IP t184).bind fun t185 => (some t185))) else (some 1)) = some r := by rw [if_neg (show ¬ (false = true) by decide)] at H; exact H
               clear H
               have H := H1
               clear H1
               by_cases gV : t183 = 15
               ·rw [if_pos gV] at H
                have Hn : (t183 == 15) = true := beq_iff_eq.mpr gV
                have Hm : (t183 != 15) = false := bne_eq_false_iff_eq.mpr gV
                clear gV
                replace H := Option.bind_eq_some_iff.mp H
                obtain ⟨t184,acg,H⟩ := H
                replace H : ((ay.f IP t184).bind fun t185 => (some t185)) = some r := H
                have A26 := U.mk acg
                clear acg
                replace H := Option.bind_eq_some_iff.mp H
                obtain ⟨t185,acf,H⟩ := H
                replace H : (some t185) = some r := H
                have A27 := U.mk acf
                clear acf
                obtain rfl := Option.some.inj H
                go_wp2_with (first | ((with_reducible refine aW (f := 74) rfl ?_); refine bK (some 36) rfl rfl Tryz.func74 (by kernel_rfl) rfl #[.string a0] rfl (by (try simp only [List.map_toArray,List.map_cons,List.map_nil]); first | done | rfl | (simp only [List.length_drop,List.length_take]; rfl)) ?_; (with_reducible refine (b8.calls IP a0 t184 _ A26.out).mono ?_); rintro e w' ⟨rfl,⟨nd,rfl⟩⟩; refine ⟨_,rfl,?_⟩) | ((with_reducible refine aW (f := 60) rfl ?_); refine bK (some 37) rfl rfl Tryz.func60 (by kernel_rfl) rfl #[.string t184] rfl (by (try simp only [List.map_toArray,List.map_cons,List.map_nil]); first | done | rfl | (simp only [List.length_drop,List.length_take]; rfl)) ?_; (with_reducible refine (ih IP (by have := zP.out; have := J3.out; have := afZ.out; omega) t184 t185 _ A27.out).mono ?_); rintro e w' ⟨rfl,⟨nd,rfl⟩⟩; refine ⟨_,rfl,?_⟩))
                go_ret
                exact ⟨by first | rfl | (simp; done) | (simp [*]; done),by repeat (first | exact ah.refl _ | apply ah.step)⟩
               ·rw [if_neg gV] at H
                have Hn : (t183 == 15) = false := beq_eq_false_iff_ne.mpr gV
                have Hm : (t183 != 15) = true := bne_iff_ne.mpr gV
                obtain rfl := Option.some.inj H
                go_wp2
                go_ret
                exact ⟨by first | rfl | (simp; done) | (simp [*]; done),by repeat (first | exact ah.refl _ | apply ah.step)⟩












def bR.l0 : Nat → ByteArray → ByteArray → Int → Option (Int)
 | 0,_,_,_ => none
 | k + 1,x0,x1,x5 => if (wrap64 (x5 + (x1.size : Int))) ≤ (x0.size : Int) then (if 0 ≤ x5 then (if x5 ≤ (wrap64 (x5 + (x1.size : Int))) then (if (x0.extract (x5 : Int).toNat ((wrap64 (x5 + (x1.size : Int))) : Int).toNat).toList = x1.toList then (some x5) else (bR.l0 k x0 x1 (wrap64 (x5 + 1)))) else (none)) else (none)) else (some (-1))
def bR.f (k : Nat) (a0 : ByteArray) (a1 : ByteArray) : Option (Int) := bR.l0 k a0 a1 0
theorem bR.calls (k : Nat) (a0 : ByteArray) (a1 : ByteArray) (r : Int) (w : World) (h : bR.f k a0 a1 = some r) :
  Calls Tryz.prog 109 #[.string a0,.string a1] w fun e w' => e = .returned (.int .i64 r) ∧ ah w w' := by
 have H : (bR.l0 k a0 a1 0) = some r := h
 clear h
 have H' := U.mk H
 clear H
 go_enter Tryz.func109,Tryz.ntmps109
 go_wp2
 go_loopg [5] k (fun kq v5 w' => ∃ (bS : Int),v5 = .int .i64 bS ∧ U (bR.l0 kq a0 a1 bS = some r) ∧ U (kq ≤ k) ∧ ah w w')
 case atStart => exact ⟨(0),(by first | rfl | (simp; done) | (simp [*]; done)),H', ⟨Nat.le_refl _⟩,by repeat (first | exact ah.refl _ | apply ah.step)⟩
 case round=>
  clear H'
  try clear c1
  try clear p2
  obtain ⟨bS,rfl,HA,fu,⟨m1,rfl⟩⟩ := hrel
  cases gk with
  | zero => exact absurd HA.out (by simp [bR.l0])
  | succ k1=>
   have H := HA.out
   clear HA
   simp only [bR.l0] at H
   by_cases c3 : (wrap64 (bS + (a1.size : Int))) ≤ (a0.size : Int)
   ·rw [if_pos c3] at H
    have cI : decide ((wrap64 (bS + (a1.size : Int))) ≤ (a0.size : Int)) = true := decide_eq_true c3
    clear c3
    by_cases c4 : 0 ≤ bS
    ·rw [if_pos c4] at H
     have ei := eq_true c4
     have gl : decide (0 ≤ bS) = true := decide_eq_true c4
     clear c4
     by_cases c5 : bS ≤ (wrap64 (bS + (a1.size : Int)))
     ·rw [if_pos c5] at H
      have cW := eq_true c5
      have dH : decide (bS ≤ (wrap64 (bS + (a1.size : Int)))) = true := decide_eq_true c5
      have eg := eq_true (of_decide_eq_true (by first | (with_reducible assumption) | assumption) : (wrap64 (bS + (a1.size : Int))) ≤ (a0.size : Int))
      by_cases c7 : (a0.extract (bS : Int).toNat ((wrap64 (bS + (a1.size : Int))) : Int).toNat).toList = a1.toList
      ·rw [if_pos c7] at H
       have dn : ((a0.extract (bS : Int).toNat ((wrap64 (bS + (a1.size : Int))) : Int).toNat).toList == a1.toList) = true := beq_iff_eq.mpr c7
       have eZ : ((a0.extract (bS : Int).toNat ((wrap64 (bS + (a1.size : Int))) : Int).toNat).toList != a1.toList) = false := bne_eq_false_iff_eq.mpr c7
       clear c7
       obtain rfl := Option.some.inj H
       go_wp2
       go_ret
       exact ⟨by first | rfl | (simp; done) | (simp [*]; done),by repeat (first | exact ah.refl _ | apply ah.step)⟩
      ·rw [if_neg c7] at H
       have dn : ((a0.extract (bS : Int).toNat ((wrap64 (bS + (a1.size : Int))) : Int).toNat).toList == a1.toList) = false := beq_eq_false_iff_ne.mpr c7
       have eZ : ((a0.extract (bS : Int).toNat ((wrap64 (bS + (a1.size : Int))) : Int).toNat).toList != a1.toList) = true := bne_iff_ne.mpr c7
       have H' := U.mk H
       clear H
       go_wp2
       go_roundg k1
       case measure => have := fu.out; omega
       case rel => exact ⟨(wrap64 (bS + 1)),(by first | rfl | (simp; done) | (simp [*]; done)),H', ⟨by have := fu.out; omega⟩,by repeat (first | exact ah.refl _ | apply ah.step)⟩
     ·rw [if_neg c5] at H
      exact absurd H (by simp)
    ·rw [if_neg c4] at H
     exact absurd H (by simp)
   ·rw [if_neg c3] at H
    have cI : decide ((wrap64 (bS + (a1.size : Int))) ≤ (a0.size : Int)) = false := decide_eq_false c3
    clear c3
    obtain rfl := Option.some.inj H
    go_wp2
    go_ret
    exact ⟨by first | rfl | (simp; done) | (simp [*]; done),by repeat (first | exact ah.refl _ | apply ah.step)⟩
end Go.Proofs.YtkdebhgccpfkiaaGreatDoor.au
