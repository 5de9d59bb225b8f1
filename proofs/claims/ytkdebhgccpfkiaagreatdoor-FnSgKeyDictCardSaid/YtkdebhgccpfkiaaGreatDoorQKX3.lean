import Derived.Test.YtkdebhgccpfkiaaGreatDoorQKX1
set_option maxRecDepth 100000
set_option maxHeartbeats 16000000
namespace Go.Proofs.YtkdebhgccpfkiaaGreatDoor.au
open Go.RowKit Go.Proofs.aa.az Go.Proofs.aa.aM Go.Proofs.aa.aU
attribute [local go_sem] ba bh
set_option linter.unusedVariables false
set_option linter.unusedSimpArgs false




def ahy (w0 W : World) (g : Nat) (f0 : List Int) (f1 : Int) (f2 : Int) : Prop := ∃ A0 c0,W.heap[g]? = some (.cells #[.slice A0 f0.length c0,.int .i64 f1,.int .i8 f2] 53 (0,0)) ∧ w0.heap.size ≤ g ∧ Kd.C (Kd.int .u8) w0 A0 f0.length f0




mutual
def bp.l0 : Nat → ByteArray → Int → Option (Int)
 | 0,_,_ => none
 | k + 1,x0,x3 => if x3 < (x0.size : Int) then (if 0 ≤ x3 then (if (bt x0 x3) = 41 then (some (wrap64 (x3 + 1))) else (if x3 ≤ (x0.size : Int) then ((bp.f k (x0.extract (x3 : Int).toNat x0.size)).bind fun t188 => (bp.l0 k x0 (wrap64 (x3 + t188)))) else (none))) else (none)) else (some (wrap64 (x3 + 1)))
def bp.f : Nat → ByteArray → Option (Int)
 | 0,_ => none
 | k + 1,a0 => if a0.toList = ([] : List UInt8) then (some 0) else (if 0 < (a0.size : Int) then (if (bt a0 0) = 91 then (if 1 ≤ (a0.size : Int) then ((bp.f k (a0.extract 1 a0.size)).bind fun t186 => (some (wrap64 (1 + t186)))) else (none)) else (if (bt a0 0) = 123 then (if 2 ≤ (a0.size : Int) then ((bp.f k (a0.extract 2 a0.size)).bind fun t187 => (some (wrap64 (2 + t187)))) else (none)) else (if (bt a0 0) = 40 then (bp.l0 k a0 1) else (some 1)))) else (none))
end
theorem bp.calls (k : Nat) : ∀ (a0 : ByteArray) (r : Int) (w : World) (h : bp.f k a0 = some r),
  Calls Tryz.prog 110 #[.string a0] w fun e w' => e = .returned (.int .i64 r) ∧ ah w w' := by
 induction k using Nat.strongRecOn with
 | _ k ih=>
 intro a0 r w h
 cases k with
 | zero => exact absurd h (by simp [bp.f])
 | succ k=>
 simp only [bp.f] at h
 have H : (if a0.toList = ([] : List UInt8) then (some 0) else (if 0 < (a0.size : Int) then (if (bt a0 0) = 91 then (if 1 ≤ (a0.size : Int) then ((bp.f k (a0.extract 1 a0.size)).bind fun t186 => (some (wrap64 (1 + t186)))) else (none)) else (if (bt a0 0) = 123 then (if 2 ≤ (a0.size : Int) then ((bp.f k (a0.extract 2 a0.size)).bind fun t187 => (some (wrap64 (2 + t187)))) else (none)) else (if (bt a0 0) = 40 then (bp.l0 k a0 1) else (some 1)))) else (none))) = some r := h
 clear h
 by_cases c2 : a0.toList = ([] : List UInt8)
 ·rw [if_pos c2] at H
  have df : (a0.toList == ([] : List UInt8)) = true := beq_iff_eq.mpr c2
  have eF : (a0.toList != ([] : List UInt8)) = false := bne_eq_false_iff_eq.mpr c2
  clear c2
  obtain rfl := Option.some.inj H
  go_enter Tryz.func110,Tryz.ntmps110
  go_wp2
  go_ret
  exact ⟨by first | rfl | (simp; done) | (simp [*]; done),by repeat (first | exact ah.refl _ | apply ah.step)⟩
 ·rw [if_neg c2] at H
  have df : (a0.toList == ([] : List UInt8)) = false := beq_eq_false_iff_ne.mpr c2
  have eF : (a0.toList != ([] : List UInt8)) = true := bne_iff_ne.mpr c2
  by_cases c3 : 0 < (a0.size : Int)
  ·rw [if_pos c3] at H
   have cI : decide (0 < (a0.size : Int)) = true := decide_eq_true c3
   have ej : decide (0 < a0.size) = true := decide_eq_true (by omega)
   clear c3
   by_cases c5 : (bt a0 0) = 91
   ·rw [if_pos c5] at H
    have cW : ((bt a0 0) == 91) = true := beq_iff_eq.mpr c5
    have dH : ((bt a0 0) != 91) = false := bne_eq_false_iff_eq.mpr c5
    clear c5
    by_cases c6 : 1 ≤ (a0.size : Int)
    ·rw [if_pos c6] at H
     have eg := eq_true c6
     have fR : decide (1 ≤ (a0.size : Int)) = true := decide_eq_true c6
     clear c6
     replace H := Option.bind_eq_some_iff.mp H
     obtain ⟨t186,A70,H⟩ := H
     replace H : (some (wrap64 (1 + t186))) = some r := H
     have A7 := U.mk A70
     clear A70
     obtain rfl := Option.some.inj H
     have p4 : 0 ≤ (0 : Int) := (by omega)
     have q4 : 0 < a0.size := (by have : (0 : Int) < (a0.size : Int) := of_decide_eq_true (by first | (with_reducible assumption) | assumption); omega)
     have iY : ∀ h : 0 < a0.size,((a0[0]'h).toNat : Int) = bt a0 0 := bq a0 0
     clear p4
     have jT : (0 < (a0.size : Int)) = True := eq_true (of_decide_eq_true (by first | (with_reducible assumption) | assumption))
     replace q4 := eq_true q4
     go_enter Tryz.func110,Tryz.ntmps110
     go_wp2_with (first | ((with_reducible refine aW (f := 110) rfl ?_); refine bK (some 12) rfl rfl Tryz.func110 (by kernel_rfl) rfl #[.string (a0.extract 1 a0.size)] rfl (by (try simp only [List.map_toArray,List.map_cons,List.map_nil]); first | done | rfl | (simp only [List.length_drop,List.length_take]; rfl)) ?_; (with_reducible refine (ih k (by omega) (a0.extract 1 a0.size) t186 _ A7.out).mono ?_); rintro e w' ⟨rfl,⟨nd,rfl⟩⟩; refine ⟨_,rfl,?_⟩))
     go_ret
     exact ⟨by first | rfl | (simp; done) | (simp [*]; done),by repeat (first | exact ah.refl _ | apply ah.step)⟩
    ·rw [if_neg c6] at H
     exact absurd H (by simp)
   ·rw [if_neg c5] at H
    have cW : ((bt a0 0) == 91) = false := beq_eq_false_iff_ne.mpr c5
    have dH : ((bt a0 0) != 91) = true := bne_iff_ne.mpr c5
    by_cases c8 : (bt a0 0) = 123
    ·rw [if_pos c8] at H
     have eD : ((bt a0 0) == 123) = true := beq_iff_eq.mpr c8
     have jr : ((bt a0 0) != 123) = false := bne_eq_false_iff_eq.mpr c8
     clear c8
     by_cases c9 : 2 ≤ (a0.size : Int)
     ·rw [if_pos c9] at H
      have eC := eq_true c9
      have j8 : decide (2 ≤ (a0.size : Int)) = true := decide_eq_true c9
      clear c9
      replace H := Option.bind_eq_some_iff.mp H
      obtain ⟨t187,aco,H⟩ := H
      replace H : (some (wrap64 (2 + t187))) = some r := H
      have A10 := U.mk aco
      clear aco
      obtain rfl := Option.some.inj H
      have p4 : 0 ≤ (0 : Int) := (by omega)
      have q4 : 0 < a0.size := (by have : (0 : Int) < (a0.size : Int) := of_decide_eq_true (by first | (with_reducible assumption) | assumption); omega)
      have iY : ∀ h : 0 < a0.size,((a0[0]'h).toNat : Int) = bt a0 0 := bq a0 0
      clear p4
      have jT : (0 < (a0.size : Int)) = True := eq_true (of_decide_eq_true (by first | (with_reducible assumption) | assumption))
      replace q4 := eq_true q4
      go_enter Tryz.func110,Tryz.ntmps110
      go_wp2_with (first | ((with_reducible refine aW (f := 110) rfl ?_); refine bK (some 18) rfl rfl Tryz.func110 (by kernel_rfl) rfl #[.string (a0.extract 2 a0.size)] rfl (by (try simp only [List.map_toArray,List.map_cons,List.map_nil]); first | done | rfl | (simp only [List.length_drop,List.length_take]; rfl)) ?_; (with_reducible refine (ih k (by omega) (a0.extract 2 a0.size) t187 _ A10.out).mono ?_); rintro e w' ⟨rfl,⟨nd,rfl⟩⟩; refine ⟨_,rfl,?_⟩))
      go_ret
      exact ⟨by first | rfl | (simp; done) | (simp [*]; done),by repeat (first | exact ah.refl _ | apply ah.step)⟩
     ·rw [if_neg c9] at H
      exact absurd H (by simp)
    ·rw [if_neg c8] at H
     have eD : ((bt a0 0) == 123) = false := beq_eq_false_iff_ne.mpr c8
     have jr : ((bt a0 0) != 123) = true := bne_iff_ne.mpr c8
     by_cases bE : (bt a0 0) = 40
     ·rw [if_pos bE] at H
      have dJ : ((bt a0 0) == 40) = true := beq_iff_eq.mpr bE
      have eS : ((bt a0 0) != 40) = false := bne_eq_false_iff_eq.mpr bE
      clear bE
      have H' := U.mk H
      clear H
      have p4 : 0 ≤ (0 : Int) := (by omega)
      have q4 : 0 < a0.size := (by have : (0 : Int) < (a0.size : Int) := of_decide_eq_true (by first | (with_reducible assumption) | assumption); omega)
      have iY : ∀ h : 0 < a0.size,((a0[0]'h).toNat : Int) = bt a0 0 := bq a0 0
      clear p4
      have jT : (0 < (a0.size : Int)) = True := eq_true (of_decide_eq_true (by first | (with_reducible assumption) | assumption))
      replace q4 := eq_true q4
      go_enter Tryz.func110,Tryz.ntmps110
      go_wp2
      go_loopg [3] k (fun kq v3 w' => ∃ (bL : Int),v3 = .int .i64 bL ∧ U (bp.l0 kq a0 bL = some r) ∧ U (kq ≤ k) ∧ ah w w')
      case atStart => exact ⟨(1),(by first | rfl | (simp; done) | (simp [*]; done)),H', ⟨Nat.le_refl _⟩,by repeat (first | exact ah.refl _ | apply ah.step)⟩
      case round=>
       clear H'
       try clear c1
       try clear c2
       try clear df
       try clear eF
       try clear p2
       try clear c3
       try clear cI
       try clear ej
       try clear p4
       try clear q4
       try clear iY
       try clear jT
       try clear c5
       try clear cW
       try clear dH
       try clear c6
       try clear eg
       try clear fR
       try clear p6
       try clear c8
       try clear eD
       try clear jr
       try clear c9
       try clear eC
       try clear j8
       try clear bE
       try clear dJ
       try clear eS
       try clear p4
       try clear q4
       obtain ⟨bL,rfl,HA,fu,⟨m1,rfl⟩⟩ := hrel
       cases gk with
       | zero => exact absurd HA.out (by simp [bp.l0])
       | succ k1=>
        have H := HA.out
        clear HA
        simp only [bp.l0] at H
        by_cases bP : bL < (a0.size : Int)
        ·rw [if_pos bP] at H
         have fj : decide (bL < (a0.size : Int)) = true := decide_eq_true bP
         clear bP
         by_cases bV : 0 ≤ bL
         ·rw [if_pos bV] at H
          have dP : decide (0 ≤ bL) = true := decide_eq_true bV
          clear bV
          by_cases dU : (bt a0 bL) = 41
          ·rw [if_pos dU] at H
           have jD : ((bt a0 bL) == 41) = true := beq_iff_eq.mpr dU
           have kI : ((bt a0 bL) != 41) = false := bne_eq_false_iff_eq.mpr dU
           clear dU
           obtain rfl := Option.some.inj H
           have Np : 0 ≤ (bL : Int) := of_decide_eq_true (by first | (with_reducible assumption) | assumption)
           have iG : bL < (a0.size : Int) := of_decide_eq_true (by first | (with_reducible assumption) | assumption)
           have FQ := bq a0 bL
           replace Np := eq_true Np
           replace iG := eq_true iG
           go_wp2
           go_ret
           exact ⟨by first | rfl | (simp; done) | (simp [*]; done),by repeat (first | exact ah.refl _ | apply ah.step)⟩
          ·rw [if_neg dU] at H
           have jD : ((bt a0 bL) == 41) = false := beq_eq_false_iff_ne.mpr dU
           have kI : ((bt a0 bL) != 41) = true := bne_iff_ne.mpr dU
           have ka := eq_true (of_decide_eq_true (by first | (with_reducible assumption) | assumption) : 0 ≤ bL)
           by_cases fm : bL ≤ (a0.size : Int)
           ·rw [if_pos fm] at H
            have kH := eq_true fm
            have xJ : decide (bL ≤ (a0.size : Int)) = true := decide_eq_true fm
            clear fm
            replace H := Option.bind_eq_some_iff.mp H
            obtain ⟨t188,acj,H⟩ := H
            replace H : (bp.l0 k1 a0 (wrap64 (bL + t188))) = some r := H
            have A18 := U.mk acj
            clear acj
            have H' := U.mk H
            clear H
            have Np : 0 ≤ (bL : Int) := of_decide_eq_true (by first | (with_reducible assumption) | assumption)
            have iG : bL < (a0.size : Int) := of_decide_eq_true (by first | (with_reducible assumption) | assumption)
            have FQ := bq a0 bL
            replace Np := eq_true Np
            replace iG := eq_true iG
            go_wp2_with (first | ((with_reducible refine aW (f := 110) rfl ?_); refine bK (some 36) rfl rfl Tryz.func110 (by kernel_rfl) rfl #[.string (a0.extract (bL : Int).toNat a0.size)] rfl (by (try simp only [List.map_toArray,List.map_cons,List.map_nil]); first | done | rfl | (simp only [List.length_drop,List.length_take]; rfl)) ?_; (with_reducible refine (ih k1 (by have := fu.out; omega) (a0.extract (bL : Int).toNat a0.size) t188 _ A18.out).mono ?_); rintro e w' ⟨rfl,⟨nd,rfl⟩⟩; refine ⟨_,rfl,?_⟩))
            go_roundg k1
            case measure => have := fu.out; omega
            case rel => exact ⟨(wrap64 (bL + t188)),(by first | rfl | (simp; done) | (simp [*]; done)),H', ⟨by have := fu.out; omega⟩,by repeat (first | exact ah.refl _ | apply ah.step)⟩
           ·rw [if_neg fm] at H
            exact absurd H (by simp)
         ·rw [if_neg bV] at H
          exact absurd H (by simp)
        ·rw [if_neg bP] at H
         have fj : decide (bL < (a0.size : Int)) = false := decide_eq_false bP
         clear bP
         obtain rfl := Option.some.inj H
         go_wp2
         go_ret
         exact ⟨by first | rfl | (simp; done) | (simp [*]; done),by repeat (first | exact ah.refl _ | apply ah.step)⟩
     ·rw [if_neg bE] at H
      have dJ : ((bt a0 0) == 40) = false := beq_eq_false_iff_ne.mpr bE
      have eS : ((bt a0 0) != 40) = true := bne_iff_ne.mpr bE
      obtain rfl := Option.some.inj H
      have p4 : 0 ≤ (0 : Int) := (by omega)
      have q4 : 0 < a0.size := (by have : (0 : Int) < (a0.size : Int) := of_decide_eq_true (by first | (with_reducible assumption) | assumption); omega)
      have iY : ∀ h : 0 < a0.size,((a0[0]'h).toNat : Int) = bt a0 0 := bq a0 0
      clear p4
      have jT : (0 < (a0.size : Int)) = True := eq_true (of_decide_eq_true (by first | (with_reducible assumption) | assumption))
      replace q4 := eq_true q4
      go_enter Tryz.func110,Tryz.ntmps110
      go_wp2
      go_ret
      exact ⟨by first | rfl | (simp; done) | (simp [*]; done),by repeat (first | exact ah.refl _ | apply ah.step)⟩
  ·rw [if_neg c3] at H
   exact absurd H (by simp)
def aX.l0 : Nat → ByteArray → List ByteArray → Int → Option (List ByteArray)
 | 0,_,_,_ => none
 | k + 1,x0,x3,x4 => if x4 < (x0.size : Int) then (if 0 ≤ x4 then (if (bt x0 x4) = 41 then (some x3) else (if x4 ≤ (x0.size : Int) then ((bp.f k (x0.extract (x4 : Int).toNat x0.size)).bind fun t189 => (if x4 ≤ (wrap64 (x4 + t189)) then (if (wrap64 (x4 + t189)) ≤ (x0.size : Int) then (if x3.length < 8796093022208 then (aX.l0 k x0 (x3 ++ [x0.extract (x4 : Int).toNat ((wrap64 (x4 + t189)) : Int).toNat]) (wrap64 (x4 + t189))) else (none)) else (none)) else (none))) else (none))) else (none)) else (some x3)
def aX.f (k : Nat) (a0 : ByteArray) : Option (List ByteArray) := aX.l0 k a0 ([] : List ByteArray) 1
theorem aX.calls (k : Nat) (a0 : ByteArray) (r : List ByteArray) (w : World) (h : aX.f k a0 = some r) :
  Calls Tryz.prog 104 #[.string a0] w fun e w' => ∃ AM : Value,e = .returned (AM) ∧ Kd.R Kd.string 68 w' w.heap.size (fun _ => True) AM r ∧ Below w.heap.size w w' := by
 have HB := U.mk (Below.refl w.heap.size w)
 have H : (aX.l0 k a0 ([] : List ByteArray) 1) = some r := h
 clear h
 have H' := U.mk H
 clear H
 go_enter Tryz.func104,Tryz.ntmps104
 go_wp2
 go_loopg [3,4] k (fun kq v3 v4 w' => ∃ (bL : List ByteArray) (ca : Int),v4 = .int .i64 ca ∧ U (aX.l0 kq a0 bL ca = some r) ∧ U (kq ≤ k) ∧ U (Kd.R Kd.string 68 w' w.heap.size (fun _ => True) v3 bL) ∧ U (Below w.heap.size w w'))
 case atStart => exact ⟨(([] : List ByteArray)),(1),(by first | rfl | (simp; done) | (simp [*]; done)),H', ⟨Nat.le_refl _⟩,⟨by first | exact Kd.Ax _ _ _ _ _ | exact Kd.CZ _ _ _ _ _ | exact Kd.CR _ _ _ _ _ | exact Kd.CY _ _ _ _ _ | exact Kd.CV _ _ _ _ _⟩,⟨by repeat (first | (with_reducible first | exact HB.out | apply ab | apply ai | apply ak) | exact HB.out)⟩⟩
 case round=>
  clear H'
  try clear c1
  obtain ⟨bL,ca,rfl,HA,fu,ju,HB⟩ := hrel
  cases gk with
  | zero => exact absurd HA.out (by simp [aX.l0])
  | succ k1=>
   have H := HA.out
   clear HA
   simp only [aX.l0] at H
   by_cases c2 : ca < (a0.size : Int)
   ·rw [if_pos c2] at H
    have df : decide (ca < (a0.size : Int)) = true := decide_eq_true c2
    clear c2
    by_cases c3 : 0 ≤ ca
    ·rw [if_pos c3] at H
     have cI : decide (0 ≤ ca) = true := decide_eq_true c3
     clear c3
     by_cases c5 : (bt a0 ca) = 41
     ·rw [if_pos c5] at H
      have cW : ((bt a0 ca) == 41) = true := beq_iff_eq.mpr c5
      have dH : ((bt a0 ca) != 41) = false := bne_eq_false_iff_eq.mpr c5
      clear c5
      obtain rfl := Option.some.inj H
      have p4 : 0 ≤ (ca : Int) := of_decide_eq_true (by first | (with_reducible assumption) | assumption)
      have q4 : ca < (a0.size : Int) := of_decide_eq_true (by first | (with_reducible assumption) | assumption)
      have iY := bq a0 ca
      replace p4 := eq_true p4
      replace q4 := eq_true q4
      go_wp2
      go_ret
      exact ⟨_,by first | rfl | (simp [bc,bb] <;> rfl) | (simp [*,bc,bb] <;> rfl) | (simp (disch := omega) only [cA] <;> rfl),by (with_reducible repeat (first | apply Kd.cu | apply Kd.cJ | apply Kd.de)); exact ju.out,by repeat (first | (with_reducible first | exact HB.out | apply ab | apply ai | apply ak) | exact HB.out)⟩
     ·rw [if_neg c5] at H
      have cW : ((bt a0 ca) == 41) = false := beq_eq_false_iff_ne.mpr c5
      have dH : ((bt a0 ca) != 41) = true := bne_iff_ne.mpr c5
      have eg := eq_true (of_decide_eq_true (by first | (with_reducible assumption) | assumption) : 0 ≤ ca)
      by_cases c7 : ca ≤ (a0.size : Int)
      ·rw [if_pos c7] at H
       have dn := eq_true c7
       have eZ : decide (ca ≤ (a0.size : Int)) = true := decide_eq_true c7
       clear c7
       replace H := Option.bind_eq_some_iff.mp H
       obtain ⟨t189,PR,H⟩ := H
       replace H : (if ca ≤ (wrap64 (ca + t189)) then (if (wrap64 (ca + t189)) ≤ (a0.size : Int) then (if bL.length < 8796093022208 then (aX.l0 k1 a0 (bL ++ [a0.extract (ca : Int).toNat ((wrap64 (ca + t189)) : Int).toNat]) (wrap64 (ca + t189))) else (none)) else (none)) else (none)) = some r := H
       have A8 := U.mk PR
       clear PR
       have eC := eq_true (of_decide_eq_true (by first | (with_reducible assumption) | assumption) : 0 ≤ ca)
       by_cases cC : ca ≤ (wrap64 (ca + t189))
       ·rw [if_pos cC] at H
        have fa := eq_true cC
        have jl : decide (ca ≤ (wrap64 (ca + t189))) = true := decide_eq_true cC
        by_cases bE : (wrap64 (ca + t189)) ≤ (a0.size : Int)
        ·rw [if_pos bE] at H
         have dJ := eq_true bE
         have eS : decide ((wrap64 (ca + t189)) ≤ (a0.size : Int)) = true := decide_eq_true bE
         by_cases bP : bL.length < 8796093022208
         ·rw [if_pos bP] at H
          have adM := U.mk bP
          clear bP
          obtain ⟨Xi,Ei⟩ : ∃ y_ : List ByteArray,y_ = (bL ++ [a0.extract (ca : Int).toNat ((wrap64 (ca + t189)) : Int).toNat]) := ⟨_,rfl⟩
          replace H : (aX.l0 k1 a0 Xi (wrap64 (ca + t189))) = some r := by first | (rw [Ei]; with_reducible exact H) | (have jb := (Option.bind_some _ _).symm.trans H; rw [Ei]; with_reducible exact jb) | (have jb := (Option.bind_some _ _).symm.trans H; with_reducible exact jb) | with_reducible exact H | (rw [Ei]; exact H) | exact H
          have adF := U.mk Ei
          clear Ei
          have H' := U.mk H
          clear H
          have p4 : 0 ≤ (ca : Int) := of_decide_eq_true (by first | (with_reducible assumption) | assumption)
          have q4 : ca < (a0.size : Int) := of_decide_eq_true (by first | (with_reducible assumption) | assumption)
          have iY := bq a0 ca
          replace p4 := eq_true p4
          replace q4 := eq_true q4
          go_wp2_with (first | ((with_reducible refine aW (f := 110) rfl ?_); refine bK (some 19) rfl rfl Tryz.func110 (by kernel_rfl) rfl #[.string (a0.extract (ca : Int).toNat a0.size)] rfl (by (try simp only [List.map_toArray,List.map_cons,List.map_nil]); first | done | rfl | (simp only [List.length_drop,List.length_take]; rfl)) ?_; (with_reducible refine (bp.calls k1 (a0.extract (ca : Int).toNat a0.size) t189 _ A8.out).mono ?_); rintro e w' ⟨rfl,⟨nd,rfl⟩⟩; refine ⟨_,rfl,?_⟩) | ((with_reducible refine gN (b := .append) (xs := #[.tmp 20,.tmp 27]) rfl ?_); at_builtin; refine Kd.vH Kd.string (w0 := w) w.heap.size rfl (.tmp 20) (.tmp 27) 174 68 (.string ⟨#[]⟩) 16 rfl Tryz.underlying174 Y4 rfl (by decide) (by omega) u3 bL (a0.extract (ca : Int).toNat ((wrap64 (ca + t189)) : Int).toNat) [.string (a0.extract (ca : Int).toNat ((wrap64 (ca + t189)) : Int).toNat)] (fun _ => True) (fun _ => False) rfl rfl ?aP (fun _ hk => hk.elim) ?aF ?aO ?aB ?aS ?aL ?_; (case aP => exact rfl); (case aB => exact (by repeat (first | (with_reducible first | exact HB.out | apply ab | apply ai | apply ak) | exact HB.out))); (case aF => exact (fun _ _ => trivial)); (case aO => exact (by (with_reducible repeat (first | apply Kd.cu | apply Kd.cJ | apply Kd.de)); exact ju.out)); (case aS => exact (br (by repeat (first | (with_reducible first | exact HB.out | apply ab | apply ai | apply ak) | exact HB.out)))); (case aL => have := adM.out; omega); intro ahI Kn ho hb hg cM; rw [← adF.out] at ho; have bM := U.mk (hb); have cq := U.mk (ho); clear HB; clear ju; have HB := bM; have adQ := cq; clear bM cq; clear ho hb hg cM))
          go_roundg k1
          case measure => have := fu.out; omega
          case rel => exact ⟨(Xi),(wrap64 (ca + t189)),(by first | rfl | (simp; done) | (simp [*]; done)),H', ⟨by have := fu.out; omega⟩,⟨by (with_reducible repeat (first | apply Kd.cu | apply Kd.cJ | apply Kd.de)); exact adQ.out⟩,⟨by repeat (first | (with_reducible first | exact HB.out | apply ab | apply ai | apply ak) | exact HB.out)⟩⟩
         ·rw [if_neg bP] at H
          exact absurd H (by simp)
        ·rw [if_neg bE] at H
         exact absurd H (by simp)
       ·rw [if_neg cC] at H
        exact absurd H (by simp)
      ·rw [if_neg c7] at H
       exact absurd H (by simp)
    ·rw [if_neg c3] at H
     exact absurd H (by simp)
   ·rw [if_neg c2] at H
    have df : decide (ca < (a0.size : Int)) = false := decide_eq_false c2
    clear c2
    obtain rfl := Option.some.inj H
    go_wp2
    go_ret
    exact ⟨_,by first | rfl | (simp [bc,bb] <;> rfl) | (simp [*,bc,bb] <;> rfl) | (simp (disch := omega) only [cA] <;> rfl),by (with_reducible repeat (first | apply Kd.cu | apply Kd.cJ | apply Kd.de)); exact ju.out,by repeat (first | (with_reducible first | exact HB.out | apply ab | apply ai | apply ak) | exact HB.out)⟩
def cZ.f (k : Nat) (a0 : ByteArray) : Option (Int) := (aX.f k a0).bind fun t193 => (some (t193.length : Int))
theorem cZ.calls (k : Nat) (a0 : ByteArray) (r : Int) (w : World) (h : cZ.f k a0 = some r) :
  Calls Tryz.prog 80 #[.string a0] w fun e w' => e = .returned (.int .i64 r) ∧ Below w.heap.size w w' := by
 have HB := U.mk (Below.refl w.heap.size w)
 have H : ((aX.f k a0).bind fun t193 => (some (t193.length : Int))) = some r := h
 clear h
 replace H := Option.bind_eq_some_iff.mp H
 obtain ⟨t193,xR,H⟩ := H
 replace H : (some (t193.length : Int)) = some r := H
 have A2 := U.mk xR
 clear xR
 obtain rfl := Option.some.inj H
 go_enter Tryz.func80,Tryz.ntmps80
 go_wp2_with (first | ((with_reducible refine aW (f := 104) rfl ?_); refine bK (some 4) rfl rfl Tryz.func104 (by kernel_rfl) rfl #[.string a0] rfl (by (try simp only [List.map_toArray,List.map_cons,List.map_nil]); first | done | rfl | (simp only [List.length_drop,List.length_take]; rfl)) ?_; (with_reducible refine (aX.calls k a0 t193 _ A2.out).mono ?_); rintro e w3 ⟨v194,rfl,jX,hb⟩; refine ⟨_,rfl,?_⟩; have bM := U.mk (Kd.kB jX (br (by repeat (first | (with_reducible first | exact HB.out | apply ab | apply ai | apply ak) | exact HB.out)))); have cq := U.mk (aw (by repeat (first | (with_reducible first | exact HB.out | apply ab | apply ai | apply ak) | exact HB.out)) hb); clear HB; have adP := bM; have HB := cq; clear bM cq; (try clear hb); (try clear hb2); (try clear hk); (try clear hi); (try clear jX); obtain ⟨Ao4,co4,eo4⟩ := Kd.kA adP.out; subst eo4))
 go_ret
 exact ⟨by first | rfl | (simp [bc,bb] <;> rfl) | (simp [*,bc,bb] <;> rfl) | (simp (disch := omega) only [cA] <;> rfl),by repeat (first | (with_reducible first | exact HB.out | apply ab | apply ai | apply ak) | exact HB.out)⟩
def dh.f (k : Nat) (a0 : ByteArray) (a1 : Int) : Option (ByteArray × ByteArray × ByteArray) := (aX.f k a0).bind fun t197 => (if 0 ≤ a1 then (if a1 < (t197.length : Int) then (some (gI ByteArray.empty t197 a1,(⟨#[]⟩ : ByteArray),(⟨#[]⟩ : ByteArray))) else (none)) else (none))
theorem dh.calls (k : Nat) (a0 : ByteArray) (a1 : Int) (r1 : ByteArray) (r2 : ByteArray) (r3 : ByteArray) (w : World) (h : dh.f k a0 a1 = some (r1,r2,r3)) :
  Calls Tryz.prog 81 #[.string a0,.int .i64 a1] w fun e w' => e = .returned (.agg #[.string r1,.string r2,.string r3]) ∧ Below w.heap.size w w' := by
 have acU := Tryz.underlying137
 have HB := U.mk (Below.refl w.heap.size w)
 have H : ((aX.f k a0).bind fun t197 => (if 0 ≤ a1 then (if a1 < (t197.length : Int) then (some (gI ByteArray.empty t197 a1,(⟨#[]⟩ : ByteArray),(⟨#[]⟩ : ByteArray))) else (none)) else (none))) = some (r1,r2,r3) := h
 clear h
 replace H := Option.bind_eq_some_iff.mp H
 obtain ⟨t197,PU,H⟩ := H
 replace H : (if 0 ≤ a1 then (if a1 < (t197.length : Int) then (some (gI ByteArray.empty t197 a1,(⟨#[]⟩ : ByteArray),(⟨#[]⟩ : ByteArray))) else (none)) else (none)) = some (r1,r2,r3) := H
 have A3 := U.mk PU
 clear PU
 by_cases c4 : 0 ≤ a1
 ·rw [if_pos c4] at H
  have ei : decide (0 ≤ a1) = true := decide_eq_true c4
  clear c4
  by_cases c5 : a1 < (t197.length : Int)
  ·rw [if_pos c5] at H
   have cW : decide (a1 < (t197.length : Int)) = true := decide_eq_true c5
   clear c5
   simp only [Option.some.injEq,Prod.mk.injEq] at H
   obtain ⟨rfl,rfl,rfl⟩ := H
   go_enter Tryz.func81,Tryz.ntmps81
   go_wp2_with (first | ((with_reducible refine ic (N := 4) rfl ?_); refine gv ?hg (N := 4) ?hd (cs := #[.string (⟨#[]⟩ : ByteArray),.string (⟨#[]⟩ : ByteArray),.string (⟨#[]⟩ : ByteArray)]) (t := 137) ?hr ?_; (case hd => rfl); (case hg => rfl); (case hr => first | (go_simp; done) | (go_simp; rfl)); intro Aa hg w6 fz hb; have bM := U.mk (aw (by repeat (first | (with_reducible first | exact HB.out | apply ab | apply ai | apply ak) | exact HB.out)) hb); have cq := U.mk (fz); have dR := U.mk ((by rw [hg]; exact (br (by repeat (first | (with_reducible first | exact HB.out | apply ab | apply ai | apply ak) | exact HB.out))) : w.heap.size ≤ Aa)); have eJ := U.mk ((by rw [hg]; exact (br (by repeat (first | (with_reducible first | exact HB.out | apply ab | apply ai | apply ak) | exact HB.out))) : w.heap.size ≤ Aa)); clear HB; have HB := bM; have kM := cq; have ahF := dR; have MC := eJ; clear bM cq dR eJ; clear hb fz hg) | ((with_reducible refine aW (f := 104) rfl ?_); refine bK (some 6) rfl rfl Tryz.func104 (by kernel_rfl) rfl #[.string a0] rfl (by (try simp only [List.map_toArray,List.map_cons,List.map_nil]); first | done | rfl | (simp only [List.length_drop,List.length_take]; rfl)) ?_; (with_reducible refine (aX.calls k a0 t197 _ A3.out).mono ?_); rintro e w7 ⟨v198,rfl,jX,hb⟩; refine ⟨_,rfl,?_⟩; have bM := U.mk (Kd.kB jX (br (by repeat (first | (with_reducible first | exact HB.out | apply ab | apply ai | apply ak | refine aR ?_ MC.out) | exact HB.out)))); have cq := U.mk (ff (g := Aa) (o := .cells #[.string (⟨#[]⟩ : ByteArray),.string (⟨#[]⟩ : ByteArray),.string (⟨#[]⟩ : ByteArray)] 137 (0,0)) (by (with_reducible repeat (first | refine aH ?_ _ | refine aI ?_ | refine aD ?_ _)); exact kM.out) hb); have dR := U.mk (aw (by repeat (first | (with_reducible first | exact HB.out | apply ab | apply ai | apply ak | refine aR ?_ MC.out) | exact HB.out)) hb); clear kM; clear HB; have Ue := bM; have kM := cq; have HB := dR; clear bM cq dR; (try clear hb); (try clear hb2); (try clear hk); (try clear hi); (try clear jX); obtain ⟨Ao8,co8,eo8⟩ := Kd.kA Ue.out; subst eo8; have Ql : 0 ≤ (a1 : Int) := of_decide_eq_true (by first | (with_reducible assumption) | assumption); have Qh : a1 < (t197.length : Int) := of_decide_eq_true (by first | (with_reducible assumption) | assumption); obtain ⟨ahw,afA,af5⟩ := Kd.BM (Kd.DM Ue.out).2.2 a1 Ql Qh; cases afA; replace Ql := eq_true Ql; replace Qh := eq_true Qh; have Jt : w7.cell? ⟨Aa,0,none⟩ = some (.string (⟨#[]⟩ : ByteArray)) := (aK kM.out 0).trans rfl; have Js : w7.cell? ⟨Aa,1,none⟩ = some (.string (⟨#[]⟩ : ByteArray)) := (aK kM.out 1).trans rfl; have Jr : w7.cell? ⟨Aa,2,none⟩ = some (.string (⟨#[]⟩ : ByteArray)) := (aK kM.out 2).trans rfl; have Jl := aY kM.out 0; have Jk := aY kM.out 1; have Jj := aY kM.out 2))
   refine bodyPost_ret (results_cell_row rfl _ _ Aa 137 #[.string (gI ByteArray.empty t197 a1),.string (⟨#[]⟩ : ByteArray),.string (⟨#[]⟩ : ByteArray)] (0,0) _ rfl (by (with_reducible repeat (first | refine aH ?_ _ | refine aI ?_ | refine aD ?_ _)); refine dV (cs := #[.string (gI ByteArray.empty t197 a1),.string (⟨#[]⟩ : ByteArray),.string (⟨#[]⟩ : ByteArray)]) ?_ 2 _ rfl; (with_reducible repeat (first | refine aH ?_ _ | refine aI ?_ | refine aD ?_ _)); refine dV (cs := #[.string (gI ByteArray.empty t197 a1),.string (⟨#[]⟩ : ByteArray),.string (⟨#[]⟩ : ByteArray)]) ?_ 1 _ rfl; (with_reducible repeat (first | refine aH ?_ _ | refine aI ?_ | refine aD ?_ _)); refine dV (cs := #[.string (⟨#[]⟩ : ByteArray),.string (⟨#[]⟩ : ByteArray),.string (⟨#[]⟩ : ByteArray)]) ?_ 0 _ rfl; (with_reducible repeat (first | refine aH ?_ _ | refine aI ?_ | refine aD ?_ _)); exact kM.out) Tryz.underlying137 rfl (by kernel_rfl)) rfl ?_
   exact ⟨by first | rfl | (simp [bc,bb] <;> rfl) | (simp [*,bc,bb] <;> rfl) | (simp (disch := omega) only [cA] <;> rfl),by repeat (first | (with_reducible first | exact HB.out | apply ab | apply ai | apply ak | refine aR ?_ MC.out) | exact HB.out)⟩
  ·rw [if_neg c5] at H
   exact absurd H (by simp)
 ·rw [if_neg c4] at H
  exact absurd H (by simp)
def jj.f (a0 : ByteArray) (a1 : ByteArray) : Option (ByteArray) := some (⟨#[]⟩ : ByteArray)
theorem jj.calls (a0 : ByteArray) (a1 : ByteArray) (r : ByteArray) (w : World) (h : jj.f a0 a1 = some r) :
  Calls Tryz.prog 82 #[.string a0,.string a1] w fun e w' => e = .returned (.string r) ∧ ah w w' := by
 have H : (some (⟨#[]⟩ : ByteArray)) = some r := h
 clear h
 obtain rfl := Option.some.inj H
 go_enter Tryz.func82,Tryz.ntmps82
 go_wp2
 go_ret
 exact ⟨by first | rfl | (simp; done) | (simp [*]; done),by repeat (first | exact ah.refl _ | apply ah.step)⟩
def du.f (a0 : ByteArray) : Option (ByteArray) := if 1 ≤ 2 then (if 2 ≤ (a0.size : Int) then (some (a0.extract 1 2)) else (none)) else (none)
theorem du.calls (a0 : ByteArray) (r : ByteArray) (w : World) (h : du.f a0 = some r) :
  Calls Tryz.prog 83 #[.string a0] w fun e w' => e = .returned (.string r) ∧ ah w w' := by
 have H : (if 1 ≤ 2 then (if 2 ≤ (a0.size : Int) then (some (a0.extract 1 2)) else (none)) else (none)) = some r := h
 clear h
 by_cases c2 : 1 ≤ 2
 ·rw [if_pos c2] at H
  have df := eq_true c2
  have eF : decide (1 ≤ 2) = true := decide_eq_true c2
  clear c2
  by_cases c3 : 2 ≤ (a0.size : Int)
  ·rw [if_pos c3] at H
   have cI := eq_true c3
   have ej : decide (2 ≤ (a0.size : Int)) = true := decide_eq_true c3
   clear c3
   obtain rfl := Option.some.inj H
   go_enter Tryz.func83,Tryz.ntmps83
   go_wp2
   go_ret
   exact ⟨by first | rfl | (simp; done) | (simp [*]; done),by repeat (first | exact ah.refl _ | apply ah.step)⟩
  ·rw [if_neg c3] at H
   exact absurd H (by simp)
 ·rw [if_neg c2] at H
  exact absurd H (by simp)



def ahx (w0 W : World) (g : Nat) (f0 : Int) (f1 : Int) (f2 : Int) : Prop := W.heap[g]? = some (.cells #[.int .i64 f0,.int .i64 f1,.int .i64 f2] 95 (0,0)) ∧ w0.heap.size ≤ g







end Go.Proofs.YtkdebhgccpfkiaaGreatDoor.au
namespace Go.Proofs.YtkdebhgccpfkiaaGreatDoor.au
open Go.RowKit Go.Proofs.aa.az Go.Proofs.aa.aM Go.Proofs.aa.aU
attribute [local go_sem] ba bh
set_option linter.unusedVariables false
set_option linter.unusedSimpArgs false
def aj.er (s r : ByteArray) : Option (TypeId × Value) := some (157,.agg #[.string s,.string r])
def aj.simple (c : Int) : Bool := c == 121 || c == 98 || c == 110 || c == 113 || c == 105 || c == 117 || c == 120 || c == 116 || c == 100 || c == 115 || c == 103 || c == 111 || c == 118 || c == 104
def aj.ok (a s d : Int) : Bool := decide (a ≤ 32) && decide (s ≤ 32) && decide (d ≤ 32)
mutual
def aj.g : Nat → ByteArray → Int → Int → Int → Option (Option (TypeId × Value) × ByteArray)
 | 0,_,_,_,_ => none
 | k + 1,s,a,t,d=>
  if s.size = 0 then some (aj.er s ⟨#[101,109,112,116,121,32,115,105,103,110,97,116,117,114,101]⟩,⟨#[]⟩)
  else if aj.ok a t d = false then some (aj.er s ⟨#[99,111,110,116,97,105,110,101,114,32,110,101,115,116,105,110,103,32,116,111,111,32,100,101,101,112]⟩,⟨#[]⟩)
  else if aj.simple (bt s 0) = true then some (none,s.extract 1 s.size)
  else if bt s 0 = 97 then
   (if 1 < s.size then
    (if bt s 1 = 123 then (aG.f k (s.extract 1 s.size) 123 125).bind fun i => aj.dict k s a t d i
    else aj.g k (s.extract 1 s.size) (wrap64 (a + 1)) t d)
   else aj.g k (s.extract 1 s.size) (wrap64 (a + 1)) t d)
  else if bt s 0 = 40 then (aG.f k s 40 41).bind fun i => aj.open k s a t d i
  else some (aj.er s ⟨#[105,110,118,97,108,105,100,32,116,121,112,101,32,99,104,97,114,97,99,116,101,114]⟩,⟨#[]⟩)
def aj.dict : Nat → ByteArray → Int → Int → Int → Int → Option (Option (TypeId × Value) × ByteArray)
 | 0,_,_,_,_,_ => none
 | k + 1,s,a,t,d,i=>
  if i = -1 then some (aj.er s ⟨#[117,110,109,97,116,99,104,101,100,32,39,123,39]⟩,⟨#[]⟩)
  else if 1 ≤ i ∧ i + 2 ≤ (s.size : Int) ∧ i ≤ 1000000000 then
   (if (s.extract 2 (i + 1).toNat).size = 0 then some (aj.er (s.extract 2 (i + 1).toNat) ⟨#[101,109,112,116,121,32,100,105,99,116]⟩,⟨#[]⟩)
   else (aj.g k ((s.extract 2 (i + 1).toNat).extract 0 1) (wrap64 (a + 1)) t (wrap64 (d + 1))).bind fun x=>
    if x.1.isSome = true then some (x.1,⟨#[]⟩) else
    (aj.g k ((s.extract 2 (i + 1).toNat).extract 1 (s.extract 2 (i + 1).toNat).size) (wrap64 (a + 1)) t (wrap64 (d + 1))).bind fun y=>
    if y.1.isSome = true then some (y.1,⟨#[]⟩) else
    if y.2.size = 0 then some (none,s.extract (i + 1 + 1).toNat s.size)
    else some (aj.er (s.extract 2 (i + 1).toNat) ⟨#[116,111,111,32,109,97,110,121,32,116,121,112,101,115,32,105,110,32,100,105,99,116]⟩,⟨#[]⟩))
  else none
def aj.open : Nat → ByteArray → Int → Int → Int → Int → Option (Option (TypeId × Value) × ByteArray)
 | 0,_,_,_,_,_ => none
 | k + 1,s,a,t,d,i=>
  if i = -1 then some (aj.er s ⟨#[117,110,109,97,116,99,104,101,100,32,39,41,39]⟩,⟨#[]⟩)
  else if 1 ≤ i ∧ i + 1 ≤ (s.size : Int) ∧ i ≤ 1000000000 then aj.l k none (s.extract 1 i.toNat) (s.extract (i + 1).toNat s.size) a t d
  else none
def aj.l : Nat → Option (TypeId × Value) → ByteArray → ByteArray → Int → Int → Int → Option (Option (TypeId × Value) × ByteArray)
 | 0,_,_,_,_,_,_ => none
 | k + 1,e,s,r,a,t,d=>
  if e.isSome = true then some (e,⟨#[]⟩)
  else if s.size = 0 then some (none,r)
  else (aj.g k s a (wrap64 (t + 1)) d).bind fun x => aj.l k x.1 x.2 r a t d
end
theorem aj.BJ (a s d : Int) (w : World) : Calls Tryz.prog 94 #[.agg #[.int .i64 a,.int .i64 s,.int .i64 d]] w fun e w' => e = .returned (.pointer (some ⟨w.heap.size,0,none⟩)) ∧ w.alloc (.cells #[.int .i64 (wrap64 (a + 1)),.int .i64 s,.int .i64 d] 95) = w' := by
 have hu := Tryz.underlying95
 go_enter Tryz.func94,Tryz.ntmps94
 go_wp2
 go_ret
 exact ⟨rfl,rfl⟩
theorem aj.JG (a s d : Int) (w : World) : Calls Tryz.prog 95 #[.agg #[.int .i64 a,.int .i64 s,.int .i64 d]] w fun e w' => e = .returned (.pointer (some ⟨w.heap.size,0,none⟩)) ∧ w.alloc (.cells #[.int .i64 a,.int .i64 s,.int .i64 (wrap64 (d + 1))] 95) = w' := by
 have hu := Tryz.underlying95
 go_enter Tryz.func95,Tryz.ntmps95
 go_wp2
 go_ret
 exact ⟨rfl,rfl⟩
theorem aj.O0 (a s d : Int) (w : World) : Calls Tryz.prog 96 #[.agg #[.int .i64 a,.int .i64 s,.int .i64 d]] w fun e w' => e = .returned (.pointer (some ⟨w.heap.size,0,none⟩)) ∧ w.alloc (.cells #[.int .i64 a,.int .i64 (wrap64 (s + 1)),.int .i64 d] 95) = w' := by
 have hu := Tryz.underlying95
 go_enter Tryz.func96,Tryz.ntmps96
 go_wp2
 go_ret
 exact ⟨rfl,rfl⟩
theorem aj.valid (g : Nat) (a s d : Int) (w : World) (h0 : w.cell? ⟨g,0,none⟩ = some (.int .i64 a)) (h1 : w.cell? ⟨g,1,none⟩ = some (.int .i64 s)) (h2 : w.cell? ⟨g,2,none⟩ = some (.int .i64 d)) :
  Calls Tryz.prog 92 #[.pointer (some ⟨g,0,none⟩)] w fun e w' => e = .returned (.bool (aj.ok a s d)) ∧ w = w' := by
 by_cases c1 : a ≤ 32
 ·have b1 := decide_eq_true c1
  by_cases c2 : s ≤ 32
  ·have b2 := decide_eq_true c2
   have e : aj.ok a s d = decide (d ≤ 32) := by simp [aj.ok,c1,c2]
   rw [e]
   clear e c1 c2
   go_enter Tryz.func92,Tryz.ntmps92
   go_wp2
   go_ret
   exact ⟨rfl,rfl⟩
  ·have b2 := decide_eq_false c2
   have e : aj.ok a s d = false := by simp [aj.ok,c2]
   rw [e]
   clear e c1 c2
   go_enter Tryz.func92,Tryz.ntmps92
   go_wp2
   go_ret
   exact ⟨rfl,rfl⟩
 ·have b1 := decide_eq_false c1
  have e : aj.ok a s d = false := by simp [aj.ok,c1]
  rw [e]
  clear e c1
  go_enter Tryz.func92,Tryz.ntmps92
  go_wp2
  go_ret
  exact ⟨rfl,rfl⟩
theorem aj.emp {s : ByteArray} (h : s.size = 0) : (s.toList == ([] : List UInt8)) = true := by
 have h2 : s.data.toList.length = 0 := h
 rw [beq_iff_eq,ByteArray.toList_eq]; exact List.eq_nil_of_length_eq_zero h2
theorem aj.Bj {s : ByteArray} (h : ¬ s.size = 0) : (s.toList == ([] : List UInt8)) = false := by
 rw [beq_eq_false_iff_ne,ByteArray.toList_eq]; intro e; exact h (congrArg List.length e)
def aj.Core (k : Nat) : Prop := ∀ (a0 : ByteArray) (g : Nat) (a s d : Int) (r1 : Option (TypeId × Value)) (r2 : ByteArray) (w : World)
  (h0 : w.cell? ⟨g,0,none⟩ = some (.int .i64 a)) (h1 : w.cell? ⟨g,1,none⟩ = some (.int .i64 s)) (h2 : w.cell? ⟨g,2,none⟩ = some (.int .i64 d)) (h : aj.g k a0 a s d = some (r1,r2)),
  Calls Tryz.prog 51 #[.string a0,.pointer (some ⟨g,0,none⟩)] w fun e w' => e = .returned (.tuple #[lh r1,.string r2]) ∧ Below w.heap.size w w'
theorem aj.UG (a0 : ByteArray) (g : Nat) (w : World) (c1 : a0.size = 0) : Calls Tryz.prog 51 #[.string a0,.pointer (some ⟨g,0,none⟩)] w fun e w' => e = .returned (.tuple #[lh (aj.er a0 ⟨#[101,109,112,116,121,32,115,105,103,110,97,116,117,114,101]⟩),.string ⟨#[]⟩]) ∧ Below w.heap.size w w' := by
 have hu := Tryz.underlying157
 have e1 := aj.emp c1
 clear c1
 go_enter Tryz.func51,Tryz.ntmps51
 go_wp2
 go_ret2
 exact ⟨rfl,Below.refl _ _⟩
theorem aj.Xn (a0 : ByteArray) (g : Nat) (a s d : Int) (w : World) (h0 : w.cell? ⟨g,0,none⟩ = some (.int .i64 a)) (h1 : w.cell? ⟨g,1,none⟩ = some (.int .i64 s)) (h2 : w.cell? ⟨g,2,none⟩ = some (.int .i64 d)) (c1 : ¬ a0.size = 0) (c2 : aj.ok a s d = false) : Calls Tryz.prog 51 #[.string a0,.pointer (some ⟨g,0,none⟩)] w fun e w' => e = .returned (.tuple #[lh (aj.er a0 ⟨#[99,111,110,116,97,105,110,101,114,32,110,101,115,116,105,110,103,32,116,111,111,32,100,101,101,112]⟩),.string ⟨#[]⟩]) ∧ Below w.heap.size w w' := by
 have hu := Tryz.underlying157
 have e1 := aj.Bj c1
 clear c1
 go_enter Tryz.func51,Tryz.ntmps51
 go_wp2_with (first | (go_at_call 92; refine (aj.valid g a s d _ h0 h1 h2).mono ?_; rintro e w' ⟨rfl,rfl⟩))
 go_ret2
 exact ⟨rfl,Below.refl _ _⟩
theorem aj.P4 (a0 : ByteArray) (g : Nat) (a s d : Int) (w : World) (h0 : w.cell? ⟨g,0,none⟩ = some (.int .i64 a)) (h1 : w.cell? ⟨g,1,none⟩ = some (.int .i64 s)) (h2 : w.cell? ⟨g,2,none⟩ = some (.int .i64 d)) (c1 : ¬ a0.size = 0) (c2 : aj.ok a s d = true) (c3 : aj.simple (bt a0 0) = true) : Calls Tryz.prog 51 #[.string a0,.pointer (some ⟨g,0,none⟩)] w fun e w' => e = .returned (.tuple #[lh none,.string (a0.extract 1 a0.size)]) ∧ Below w.heap.size w w' := by
 have e1 := aj.Bj c1
 have iG : 0 < a0.size := by omega
 have FQ : ∀ h : 0 < a0.size,((a0[0]'h).toNat : Int) = bt a0 0 := bq a0 0
 have LQ : (0 < (a0.size : Int)) = True := eq_true (by omega)
 have s1 : 1 ≤ a0.size := by omega
 have s1i : (1 : Int) ≤ (a0.size : Int) := by omega
 replace iG := eq_true iG
 clear c1
 simp only [aj.simple,Bool.or_eq_true,beq_iff_eq] at c3
 rcases c3 with ((((((((((((c | c) | c) | c) | c) | c) | c) | c) | c) | c) | c) | c) | c) | c
 all_goals
  go_enter Tryz.func51,Tryz.ntmps51
  go_wp2_with (first | (go_at_call 92; refine (aj.valid g a s d _ h0 h1 h2).mono ?_; rintro e w' ⟨rfl,rfl⟩))
  go_quiet (fail)
  go_wp2
  go_ret2
  exact ⟨rfl,ai (Below.refl _ _) _⟩
theorem aj.Km (k : Nat) (ih : aj.Core k) (a0 : ByteArray) (g : Nat) (a s d : Int) (r1 : Option (TypeId × Value)) (r2 : ByteArray) (w : World)
  (h0 : w.cell? ⟨g,0,none⟩ = some (.int .i64 a)) (h1 : w.cell? ⟨g,1,none⟩ = some (.int .i64 s)) (h2 : w.cell? ⟨g,2,none⟩ = some (.int .i64 d))
  (c1 : ¬ a0.size = 0) (c2 : aj.ok a s d = true) (c3 : bt a0 0 = 97) (c4 : 1 < a0.size → ¬ bt a0 1 = 123) (h : aj.g k (a0.extract 1 a0.size) (wrap64 (a + 1)) s d = some (r1,r2)) :
  Calls Tryz.prog 51 #[.string a0,.pointer (some ⟨g,0,none⟩)] w fun e w' => e = .returned (.tuple #[lh r1,.string r2]) ∧ Below w.heap.size w w' := by
 have IH := U.mk ih
 have HH := U.mk h
 clear ih h
 have HB := U.mk (Below.refl w.heap.size w)
 have hg : g < w.heap.size := World.block_lt_of_cell? w ⟨g,0,none⟩ h0
 have hu := Tryz.underlying95
 have e1 := aj.Bj c1
 have iG : 0 < a0.size := by omega
 have FQ : ∀ h : 0 < a0.size,((a0[0]'h).toNat : Int) = bt a0 0 := bq a0 0
 have LQ : (0 < (a0.size : Int)) = True := eq_true (by omega)
 have s1 : 1 ≤ a0.size := by omega
 have s1i : (1 : Int) ≤ (a0.size : Int) := by omega
 replace iG := eq_true iG
 clear c1
 by_cases c5 : 1 < a0.size
 ·have c6 := c4 c5
  have c6b : (bt a0 1 == 123) = false := beq_eq_false_iff_ne.mpr c6
  have b5 := decide_eq_true c5
  have b5i : decide ((1 : Int) < (a0.size : Int)) = true := decide_eq_true (by omega)
  have vw : ∀ h : 1 < a0.size,((a0[1]'h).toNat : Int) = bt a0 1 := bq a0 1
  have Dw : (1 < (a0.size : Int)) = True := eq_true (by omega)
  replace c5 := eq_true c5
  clear c4 c6
  go_enter Tryz.func51,Tryz.ntmps51
  go_wp2_with (first | (go_at_call 92; refine (aj.valid g a s d _ h0 h1 h2).mono ?_; rintro e w' ⟨rfl,rfl⟩))
  go_region_held3 (fun w' => w'.cell? ⟨g,0,none⟩ = some (.int .i64 a) ∧ w'.cell? ⟨g,1,none⟩ = some (.int .i64 s) ∧ w'.cell? ⟨g,2,none⟩ = some (.int .i64 d)) (first | exact kk.out | go_keep)
   (first | (go_at_call 94; refine (aj.BJ a s d _).mono ?_; rintro e w' ⟨rfl,rfl⟩) | (go_at_call 51; refine (IH.out _ w.heap.size (wrap64 (a + 1)) s d r1 r2 _ (by simp) (by simp) (by simp) HH.out).mono ?_; rintro e w' ⟨rfl,hb⟩; have hb2 := U.mk (aw (by repeat (first | (with_reducible first | exact HB.out | apply ab | apply ai | apply ak) | exact HB.out)) hb); have kk := U.mk (And.intro ((hb2.out.cell (p := ⟨g,0,none⟩) hg).trans h0) (And.intro ((hb2.out.cell (p := ⟨g,1,none⟩) hg).trans h1) ((hb2.out.cell (p := ⟨g,2,none⟩) hg).trans h2))); clear hb))
  go_wp2
  go_ret2
  exact ⟨rfl,by repeat (first | (with_reducible first | exact hb2.out | apply ab | apply ai | apply ak) | exact hb2.out)⟩
 ·have b5 := decide_eq_false c5
  have b5i : decide ((1 : Int) < (a0.size : Int)) = false := decide_eq_false (by omega)
  clear c4 c5
  go_enter Tryz.func51,Tryz.ntmps51
  go_wp2_with (first | (go_at_call 92; refine (aj.valid g a s d _ h0 h1 h2).mono ?_; rintro e w' ⟨rfl,rfl⟩))
  go_region_held3 (fun w' => w'.cell? ⟨g,0,none⟩ = some (.int .i64 a) ∧ w'.cell? ⟨g,1,none⟩ = some (.int .i64 s) ∧ w'.cell? ⟨g,2,none⟩ = some (.int .i64 d)) (first | exact kk.out | go_keep)
   (first | (go_at_call 94; refine (aj.BJ a s d _).mono ?_; rintro e w' ⟨rfl,rfl⟩) | (go_at_call 51; refine (IH.out _ w.heap.size (wrap64 (a + 1)) s d r1 r2 _ (by simp) (by simp) (by simp) HH.out).mono ?_; rintro e w' ⟨rfl,hb⟩; have hb2 := U.mk (aw (by repeat (first | (with_reducible first | exact HB.out | apply ab | apply ai | apply ak) | exact HB.out)) hb); have kk := U.mk (And.intro ((hb2.out.cell (p := ⟨g,0,none⟩) hg).trans h0) (And.intro ((hb2.out.cell (p := ⟨g,1,none⟩) hg).trans h1) ((hb2.out.cell (p := ⟨g,2,none⟩) hg).trans h2))); clear hb))
  go_wp2
  go_ret2
  exact ⟨rfl,by repeat (first | (with_reducible first | exact hb2.out | apply ab | apply ai | apply ak) | exact hb2.out)⟩
theorem aj.Xm (K k kf : Nat) (ih : ∀ m,m < K → aj.Core m) (hk : k < K) (a0 : ByteArray) (g : Nat) (a s d i : Int) (r1 : Option (TypeId × Value)) (r2 : ByteArray) (w : World)
  (h0 : w.cell? ⟨g,0,none⟩ = some (.int .i64 a)) (h1 : w.cell? ⟨g,1,none⟩ = some (.int .i64 s)) (h2 : w.cell? ⟨g,2,none⟩ = some (.int .i64 d))
  (c2 : aj.ok a s d = true) (c3 : bt a0 0 = 97) (c5 : 1 < a0.size) (c6 : bt a0 1 = 123) (hf : aG.f kf (a0.extract 1 a0.size) 123 125 = some i) (h : aj.dict k a0 a s d i = some (r1,r2)) :
  Calls Tryz.prog 51 #[.string a0,.pointer (some ⟨g,0,none⟩)] w fun e w' => e = .returned (.tuple #[lh r1,.string r2]) ∧ Below w.heap.size w w' := by
 have IH := U.mk ih
 have HK := U.mk hk
 have HF := U.mk hf
 clear ih hf hk
 have HB := U.mk (Below.refl w.heap.size w)
 have hg : g < w.heap.size := World.block_lt_of_cell? w ⟨g,0,none⟩ h0
 have hu := Tryz.underlying95
 have Zd := Tryz.underlying157
 have e1 := aj.Bj (s := a0) (by omega)
 have iG : 0 < a0.size := by omega
 have FQ : ∀ h : 0 < a0.size,((a0[0]'h).toNat : Int) = bt a0 0 := bq a0 0
 have LQ : (0 < (a0.size : Int)) = True := eq_true (by omega)
 have s1 : 1 ≤ a0.size := by omega
 have s1i : (1 : Int) ≤ (a0.size : Int) := by omega
 have b5 := decide_eq_true c5
 have b5i : decide ((1 : Int) < (a0.size : Int)) = true := decide_eq_true (by omega)
 have vw : ∀ h : 1 < a0.size,((a0[1]'h).toNat : Int) = bt a0 1 := bq a0 1
 have Dw : (1 < (a0.size : Int)) = True := eq_true (by omega)
 cases k with
 | zero => exact absurd h (by simp [aj.dict])
 | succ k1=>
 simp only [aj.dict] at h
 by_cases ci : i = -1
 ·rw [if_pos ci] at h
  obtain ⟨rfl,rfl⟩ := Prod.mk.inj (Option.some.inj h)
  have cib : (i == -1) = true := beq_iff_eq.mpr ci
  replace iG := eq_true iG
  replace c5 := eq_true c5
  clear ci h
  go_enter Tryz.func51,Tryz.ntmps51
  go_wp2_with (first | (go_at_call 92; refine (aj.valid g a s d _ h0 h1 h2).mono ?_; rintro e w' ⟨rfl,rfl⟩) | (go_at_call 93; refine (aG.calls kf _ _ _ i _ HF.out).mono ?_; rintro e w5 ⟨rfl,hb⟩; have bM := U.mk (aw (by repeat (first | (with_reducible first | exact HB.out | apply ab | apply ai | apply ak) | exact HB.out)) hb); clear HB; have HB := bM; clear bM hb; have m0 := (HB.out.cell (p := ⟨g,0,none⟩) hg).trans h0; have m1 := (HB.out.cell (p := ⟨g,1,none⟩) hg).trans h1; have m2 := (HB.out.cell (p := ⟨g,2,none⟩) hg).trans h2))
  go_ret2
  exact ⟨rfl,HB.out⟩
 ·rw [if_neg ci] at h
  have cib : (i == -1) = false := beq_eq_false_iff_ne.mpr ci
  clear ci
  by_cases cg : 1 ≤ i ∧ i + 2 ≤ (a0.size : Int) ∧ i ≤ 1000000000
  ·rw [if_pos cg] at h
   obtain ⟨g1,g2,g3⟩ := cg
   have g4 : (i + 1 ≤ (a0.size : Int)) = True := eq_true (by omega)
   have g5 : ((2 : Int) ≤ i + 1) = True := eq_true (by omega)
   have g6 : (0 ≤ i + 1) = True := eq_true (by omega)
   have g7 : (0 ≤ i + 2) = True := eq_true (by omega)
   have g8 : (i + 2 ≤ (a0.size : Int)) = True := eq_true g2
   have g9 : (1 ≤ i) = True := eq_true g1
   by_cases ct : (a0.extract 2 (i + 1).toNat).size = 0
   ·rw [if_pos ct] at h
    obtain ⟨rfl,rfl⟩ := Prod.mk.inj (Option.some.inj h)
    replace iG := eq_true iG
    replace c5 := eq_true c5
    clear h
    go_enter Tryz.func51,Tryz.ntmps51
    go_wp2_with (first | (go_at_call 92; refine (aj.valid g a s d _ h0 h1 h2).mono ?_; rintro e w' ⟨rfl,rfl⟩) | (go_at_call 93; refine (aG.calls kf _ _ _ i _ HF.out).mono ?_; rintro e w5 ⟨rfl,hb⟩; have bM := U.mk (aw (by repeat (first | (with_reducible first | exact HB.out | apply ab | apply ai | apply ak) | exact HB.out)) hb); clear HB; have HB := bM; clear bM hb; have m0 := (HB.out.cell (p := ⟨g,0,none⟩) hg).trans h0; have m1 := (HB.out.cell (p := ⟨g,1,none⟩) hg).trans h1; have m2 := (HB.out.cell (p := ⟨g,2,none⟩) hg).trans h2))
    go_ret2
    exact ⟨rfl,HB.out⟩
   ·rw [if_neg ct] at h
    have h' := Option.bind_eq_some_iff.mp h
    clear h
    obtain ⟨⟨x1,x2⟩,hx,h⟩ := h'
    have HX := U.mk hx
    have HH := U.mk h
    have ct0 : (a0.extract 2 (i + 1).toNat).size = (i + 1).toNat - 2 := by rw [ByteArray.size_extract]; omega
    have ct1 : 1 ≤ (i + 1).toNat - 2 := by omega
    have ctb : ((((i + 1).toNat - 2 : Nat) : Int) == 0) = false := by rw [beq_eq_false_iff_ne]; omega
    have ct2 : (1 ≤ (i + 1).toNat - 2) = True := eq_true ct1
    have ct3 : ((1 : Int) ≤ (((i + 1).toNat - 2 : Nat) : Int)) = True := eq_true (by omega)
    have CT := U.mk ct0
    clear ct0 ct
    replace iG := eq_true iG
    replace c5 := eq_true c5
    clear h hx
    go_enter Tryz.func51,Tryz.ntmps51
    go_wp2_with (first | (go_at_call 92; refine (aj.valid g a s d _ h0 h1 h2).mono ?_; rintro e w' ⟨rfl,rfl⟩) | (go_at_call 93; refine (aG.calls kf _ _ _ i _ HF.out).mono ?_; rintro e w5 ⟨rfl,hb⟩; have bM := U.mk (aw (by repeat (first | (with_reducible first | exact HB.out | apply ab | apply ai | apply ak) | exact HB.out)) hb); clear HB; have HB := bM; clear bM hb; have m0 := (HB.out.cell (p := ⟨g,0,none⟩) hg).trans h0; have m1 := (HB.out.cell (p := ⟨g,1,none⟩) hg).trans h1; have m2 := (HB.out.cell (p := ⟨g,2,none⟩) hg).trans h2))
    go_region_with (first | (go_at_call 94; refine (aj.BJ _ _ _ _).mono ?_; rintro e w' ⟨rfl,rfl⟩) | (go_at_call 95; refine (aj.JG _ _ _ _).mono ?_; rintro e w' ⟨rfl,rfl⟩) | (go_at_call 51; refine (IH.out k1 (by have := HK.out; omega) _ (w5.heap.size + 1) (wrap64 (a + 1)) s (wrap64 (d + 1)) x1 x2 _ (by simp) (by simp) (by simp) HX.out).mono ?_; rintro e w6 ⟨rfl,hb⟩; have hb2 := U.mk (aw (by repeat (first | (with_reducible first | exact HB.out | apply ab | apply ai | apply ak) | exact HB.out)) hb); have kk := U.mk (And.intro ((hb2.out.cell (p := ⟨g,0,none⟩) hg).trans h0) (And.intro ((hb2.out.cell (p := ⟨g,1,none⟩) hg).trans h1) ((hb2.out.cell (p := ⟨g,2,none⟩) hg).trans h2))); clear hb HB; have HB := hb2; clear hb2))
    cases x1 with
    | some ev=>
     have h := HH.out
     clear HH
     simp only [Option.isSome_some,if_true] at h
     obtain ⟨rfl,rfl⟩ := Prod.mk.inj (Option.some.inj h)
     clear h
     simp only [bb]
     go_wp2
     go_ret2
     exact ⟨rfl,by repeat (first | (with_reducible first | exact HB.out | apply ab | apply ai | apply ak) | exact HB.out)⟩
    | none=>
     have h := HH.out
     clear HH
     simp only [Option.isSome_none,Bool.false_eq_true,if_false] at h
     have h' := Option.bind_eq_some_iff.mp h
     clear h
     obtain ⟨⟨y1,y2⟩,hy,h⟩ := h'
     rw [CT.out] at hy
     have HY := U.mk hy
     have HH := U.mk h
     clear h hy HX
     simp only [bc]
     obtain ⟨k0,k1_,k2_⟩ := kk.out
     clear m0 m1 m2
     go_wp2
     go_region_with (first | (go_at_call 94; refine (aj.BJ _ _ _ _).mono ?_; rintro e w' ⟨rfl,rfl⟩) | (go_at_call 95; refine (aj.JG _ _ _ _).mono ?_; rintro e w' ⟨rfl,rfl⟩) | (go_at_call 51; refine (IH.out k1 (by have := HK.out; omega) _ (w6.heap.size + 1) (wrap64 (a + 1)) s (wrap64 (d + 1)) y1 y2 _ (by simp) (by simp) (by simp) HY.out).mono ?_; rintro e w7 ⟨rfl,hb⟩; have hb2 := U.mk (aw (by repeat (first | (with_reducible first | exact HB.out | apply ab | apply ai | apply ak) | exact HB.out)) hb); have kk := U.mk (And.intro ((hb2.out.cell (p := ⟨g,0,none⟩) hg).trans h0) (And.intro ((hb2.out.cell (p := ⟨g,1,none⟩) hg).trans h1) ((hb2.out.cell (p := ⟨g,2,none⟩) hg).trans h2))); clear hb HB; have HB := hb2; clear hb2))
     cases y1 with
     | some ev=>
      have h := HH.out
      clear HH
      simp only [Option.isSome_some,if_true] at h
      obtain ⟨rfl,rfl⟩ := Prod.mk.inj (Option.some.inj h)
      clear h
      simp only [bb]
      go_wp2
      go_ret2
      exact ⟨rfl,by repeat (first | (with_reducible first | exact HB.out | apply ab | apply ai | apply ak) | exact HB.out)⟩
     | none=>
      have h := HH.out
      clear HH
      simp only [Option.isSome_none,Bool.false_eq_true,if_false] at h
      simp only [bc]
      by_cases cy : y2.size = 0
      ·rw [if_pos cy] at h
       obtain ⟨rfl,rfl⟩ := Prod.mk.inj (Option.some.inj h)
       have e2 : (!y2.toList.isEmpty) = false := by rw [beq_iff_eq.mp (aj.emp cy)]; rfl
       clear h cy
       go_wp2
       go_ret2
       exact ⟨rfl,by repeat (first | (with_reducible first | exact HB.out | apply ab | apply ai | apply ak) | exact HB.out)⟩
      ·rw [if_neg cy] at h
       obtain ⟨rfl,rfl⟩ := Prod.mk.inj (Option.some.inj h)
       have e2 : (!y2.toList.isEmpty) = true := by simpa [List.isEmpty_iff] using beq_eq_false_iff_ne.mp (aj.Bj cy)
       clear h cy
       go_wp2
       go_ret2
       exact ⟨rfl,by repeat (first | (with_reducible first | exact HB.out | apply ab | apply ai | apply ak) | exact HB.out)⟩
  ·rw [if_neg cg] at h
   exact absurd h (by simp)
theorem aj.Xl (K k kf : Nat) (ih : ∀ m,m < K → aj.Core m) (hk : k < K) (a0 : ByteArray) (g : Nat) (a s d i : Int) (r1 : Option (TypeId × Value)) (r2 : ByteArray) (w : World)
  (h0 : w.cell? ⟨g,0,none⟩ = some (.int .i64 a)) (h1 : w.cell? ⟨g,1,none⟩ = some (.int .i64 s)) (h2 : w.cell? ⟨g,2,none⟩ = some (.int .i64 d))
  (c0 : ¬ a0.size = 0) (c2 : aj.ok a s d = true) (c3 : bt a0 0 = 40) (hf : aG.f kf a0 40 41 = some i) (h : aj.open k a0 a s d i = some (r1,r2)) :
  Calls Tryz.prog 51 #[.string a0,.pointer (some ⟨g,0,none⟩)] w fun e w' => e = .returned (.tuple #[lh r1,.string r2]) ∧ Below w.heap.size w w' := by
 have IH := U.mk ih
 have HK := U.mk hk
 have HF := U.mk hf
 clear ih hf hk
 have HB := U.mk (Below.refl w.heap.size w)
 have hg : g < w.heap.size := World.block_lt_of_cell? w ⟨g,0,none⟩ h0
 have hu := Tryz.underlying95
 have Zd := Tryz.underlying157
 have e1 := aj.Bj c0
 have iG : 0 < a0.size := by omega
 have FQ : ∀ h : 0 < a0.size,((a0[0]'h).toNat : Int) = bt a0 0 := bq a0 0
 have LQ : (0 < (a0.size : Int)) = True := eq_true (by omega)
 replace iG := eq_true iG
 clear c0
 cases k with
 | zero => exact absurd h (by simp [aj.open])
 | succ k1=>
 simp only [aj.open] at h
 by_cases ci : i = -1
 ·rw [if_pos ci] at h
  obtain ⟨rfl,rfl⟩ := Prod.mk.inj (Option.some.inj h)
  have cib : (i == -1) = true := beq_iff_eq.mpr ci
  clear ci h
  go_enter Tryz.func51,Tryz.ntmps51
  go_wp2_with (first | (go_at_call 92; refine (aj.valid g a s d _ h0 h1 h2).mono ?_; rintro e w' ⟨rfl,rfl⟩) | (go_at_call 93; refine (aG.calls kf _ _ _ i _ HF.out).mono ?_; rintro e w5 ⟨rfl,hb⟩; have bM := U.mk (aw (by repeat (first | (with_reducible first | exact HB.out | apply ab | apply ai | apply ak) | exact HB.out)) hb); clear HB; have HB := bM; clear bM hb; have m0 := (HB.out.cell (p := ⟨g,0,none⟩) hg).trans h0; have m1 := (HB.out.cell (p := ⟨g,1,none⟩) hg).trans h1; have m2 := (HB.out.cell (p := ⟨g,2,none⟩) hg).trans h2))
  go_ret2
  exact ⟨rfl,HB.out⟩
 ·rw [if_neg ci] at h
  have cib : (i == -1) = false := beq_eq_false_iff_ne.mpr ci
  clear ci
  by_cases cg : 1 ≤ i ∧ i + 1 ≤ (a0.size : Int) ∧ i ≤ 1000000000
  ·rw [if_pos cg] at h
   have HH := U.mk h
   clear h
   obtain ⟨g1,g2,g3⟩ := cg
   have g4 : (i + 1 ≤ (a0.size : Int)) = True := eq_true (by omega)
   have g5 : (i ≤ (a0.size : Int)) = True := eq_true (by omega)
   have g6 : (0 ≤ i + 1) = True := eq_true (by omega)
   have g7 : (0 ≤ i) = True := eq_true (by omega)
   have g9 : (1 ≤ i) = True := eq_true g1
   go_enter Tryz.func51,Tryz.ntmps51
   go_wp2_with (first | (go_at_call 92; refine (aj.valid g a s d _ h0 h1 h2).mono ?_; rintro e w' ⟨rfl,rfl⟩) | (go_at_call 93; refine (aG.calls kf _ _ _ i _ HF.out).mono ?_; rintro e w5 ⟨rfl,hb⟩; have bM := U.mk (aw (by repeat (first | (with_reducible first | exact HB.out | apply ab | apply ai | apply ak) | exact HB.out)) hb); clear HB; have HB := bM; clear bM hb; have m0 := (HB.out.cell (p := ⟨g,0,none⟩) hg).trans h0; have m1 := (HB.out.cell (p := ⟨g,1,none⟩) hg).trans h1; have m2 := (HB.out.cell (p := ⟨g,2,none⟩) hg).trans h2))
   go_loopg [0,4] k1 (fun kq v0 v4 w' => ∃ (t : ByteArray) (e : Option (TypeId × Value)),v0 = .string t ∧ v4 = lh e ∧ U (aj.l kq e t (a0.extract (i + 1).toNat a0.size) a s d = some (r1,r2)) ∧ U (kq ≤ k1) ∧ U (Below w.heap.size w w'))
   case atStart => exact ⟨_,none,rfl,rfl,HH,⟨Nat.le_refl _⟩,HB⟩
   case round=>
    clear HH HB m0 m1 m2 HF
    obtain ⟨t,e,rfl,rfl,HL,HQ,HB⟩ := hrel
    cases gk with
    | zero => exact absurd HL.out (by simp [aj.l])
    | succ k2=>
    have m0 := (HB.out.cell (p := ⟨g,0,none⟩) hg).trans h0
    have m1 := (HB.out.cell (p := ⟨g,1,none⟩) hg).trans h1
    have m2 := (HB.out.cell (p := ⟨g,2,none⟩) hg).trans h2
    have h := HL.out
    clear HL
    simp only [aj.l] at h
    cases e with
    | some ev=>
     simp only [Option.isSome_some,if_true] at h
     obtain ⟨rfl,rfl⟩ := Prod.mk.inj (Option.some.inj h)
     clear h
     simp only [bb]
     go_wp2
     go_ret2
     exact ⟨rfl,by repeat (first | (with_reducible first | exact HB.out | apply ab | apply ai | apply ak) | exact HB.out)⟩
    | none=>
     simp only [Option.isSome_none,Bool.false_eq_true,if_false] at h
     simp only [bc]
     by_cases cy : t.size = 0
     ·rw [if_pos cy] at h
      obtain ⟨rfl,rfl⟩ := Prod.mk.inj (Option.some.inj h)
      have e2 : (!t.toList.isEmpty) = false := by rw [beq_iff_eq.mp (aj.emp cy)]; rfl
      clear h cy
      go_wp2
      go_ret2
      exact ⟨rfl,by repeat (first | (with_reducible first | exact HB.out | apply ab | apply ai | apply ak) | exact HB.out)⟩
     ·rw [if_neg cy] at h
      have e2 : (!t.toList.isEmpty) = true := by simpa [List.isEmpty_iff] using beq_eq_false_iff_ne.mp (aj.Bj cy)
      have h' := Option.bind_eq_some_iff.mp h
      clear h cy
      obtain ⟨⟨x1,x2⟩,hx,h⟩ := h'
      have HX := U.mk hx
      have HH := U.mk h
      clear h hx
      go_wp2_with (first | (go_at_call 96; refine (aj.O0 _ _ _ _).mono ?_; rintro e w' ⟨rfl,rfl⟩) | (go_at_call 51; refine (IH.out k2 (by have := HK.out; have := HQ.out; omega) _ (wr.heap.size) a (wrap64 (s + 1)) d x1 x2 _ (by simp) (by simp) (by simp) HX.out).mono ?_; rintro e w6 ⟨rfl,hb⟩; have hb2 := U.mk (aw (by repeat (first | (with_reducible first | exact HB.out | apply ab | apply ai | apply ak) | exact HB.out)) hb); have kk := U.mk (And.intro ((hb2.out.cell (p := ⟨g,0,none⟩) hg).trans h0) (And.intro ((hb2.out.cell (p := ⟨g,1,none⟩) hg).trans h1) ((hb2.out.cell (p := ⟨g,2,none⟩) hg).trans h2))); clear hb HB; have HB := hb2; clear hb2))
      go_roundg k2
      case measure => omega
      case rel => exact ⟨x2,x1,rfl,rfl,HH,⟨by have := HQ.out; omega⟩,HB⟩
  ·rw [if_neg cg] at h
   exact absurd h (by simp)
theorem aj.acs (a0 : ByteArray) (g : Nat) (a s d : Int) (w : World)
  (h0 : w.cell? ⟨g,0,none⟩ = some (.int .i64 a)) (h1 : w.cell? ⟨g,1,none⟩ = some (.int .i64 s)) (h2 : w.cell? ⟨g,2,none⟩ = some (.int .i64 d))
  (c1 : ¬ a0.size = 0) (c2 : aj.ok a s d = true) (c3 : aj.simple (bt a0 0) = false) (c4 : ¬ bt a0 0 = 97) (c5 : ¬ bt a0 0 = 40) :
  Calls Tryz.prog 51 #[.string a0,.pointer (some ⟨g,0,none⟩)] w fun e w' => e = .returned (.tuple #[lh (aj.er a0 ⟨#[105,110,118,97,108,105,100,32,116,121,112,101,32,99,104,97,114,97,99,116,101,114]⟩),.string ⟨#[]⟩]) ∧ Below w.heap.size w w' := by
 have Zd := Tryz.underlying157
 have e1 := aj.Bj c1
 have iG : 0 < a0.size := by omega
 have FQ : ∀ h : 0 < a0.size,((a0[0]'h).toNat : Int) = bt a0 0 := bq a0 0
 have LQ : (0 < (a0.size : Int)) = True := eq_true (by omega)
 replace iG := eq_true iG
 have b97 : (bt a0 0 == 97) = false := beq_eq_false_iff_ne.mpr c4
 have b40 : (bt a0 0 == 40) = false := beq_eq_false_iff_ne.mpr c5
 simp only [aj.simple,Bool.or_eq_false_iff] at c3
 obtain ⟨⟨⟨⟨⟨⟨⟨⟨⟨⟨⟨⟨⟨aiq,b98⟩,aiy⟩,aiw⟩,aiz⟩,ait⟩,air⟩,aiu⟩,aiC⟩,aiv⟩,aiB⟩,aix⟩,ais⟩,aiA⟩ := c3
 clear c1 c4 c5
 go_enter Tryz.func51,Tryz.ntmps51
 go_wp2_with (first | (go_at_call 92; refine (aj.valid g a s d _ h0 h1 h2).mono ?_; rintro e w' ⟨rfl,rfl⟩))
 go_ret2
 exact ⟨rfl,Below.refl _ _⟩
theorem aj.core (k : Nat) : aj.Core k := by
 induction k using Nat.strongRecOn with
 | _ k ih=>
 intro a0 g a s d r1 r2 w h0 h1 h2 h
 cases k with
 | zero => exact absurd h (by simp [aj.g])
 | succ k=>
 simp only [aj.g] at h
 by_cases c1 : a0.size = 0
 ·rw [if_pos c1] at h
  obtain ⟨rfl,rfl⟩ := Prod.mk.inj (Option.some.inj h)
  exact aj.UG a0 g w c1
 rw [if_neg c1] at h
 cases c2 : aj.ok a s d with
 | false=>
  rw [c2,if_pos rfl] at h
  obtain ⟨rfl,rfl⟩ := Prod.mk.inj (Option.some.inj h)
  exact aj.Xn a0 g a s d w h0 h1 h2 c1 c2
 | true=>
 rw [c2,if_neg (by decide)] at h
 cases c3 : aj.simple (bt a0 0) with
 | true=>
  rw [c3,if_pos rfl] at h
  obtain ⟨rfl,rfl⟩ := Prod.mk.inj (Option.some.inj h)
  exact aj.P4 a0 g a s d w h0 h1 h2 c1 c2 c3
 | false=>
 rw [c3,if_neg (by decide)] at h
 by_cases c4 : bt a0 0 = 97
 ·rw [if_pos c4] at h
  by_cases c5 : 1 < a0.size
  ·rw [if_pos c5] at h
   by_cases c6 : bt a0 1 = 123
   ·rw [if_pos c6] at h
    obtain ⟨i,hi,h⟩ := Option.bind_eq_some_iff.mp h
    exact aj.Xm (k + 1) k k ih (Nat.lt_succ_self k) a0 g a s d i r1 r2 w h0 h1 h2 c2 c4 c5 c6 hi h
   ·rw [if_neg c6] at h
    exact aj.Km k (ih k (Nat.lt_succ_self k)) a0 g a s d r1 r2 w h0 h1 h2 c1 c2 c4 (fun _ => c6) h
  ·rw [if_neg c5] at h
   exact aj.Km k (ih k (Nat.lt_succ_self k)) a0 g a s d r1 r2 w h0 h1 h2 c1 c2 c4 (fun h5 => absurd h5 c5) h
 ·rw [if_neg c4] at h
  by_cases c5 : bt a0 0 = 40
  ·rw [if_pos c5] at h
   obtain ⟨i,hi,h⟩ := Option.bind_eq_some_iff.mp h
   exact aj.Xl (k + 1) k k ih (Nat.lt_succ_self k) a0 g a s d i r1 r2 w h0 h1 h2 c1 c2 c5 hi h
  ·rw [if_neg c5] at h
   obtain ⟨rfl,rfl⟩ := Prod.mk.inj (Option.some.inj h)
   exact aj.acs a0 g a s d w h0 h1 h2 c1 c2 c3 c4 c5
end Go.Proofs.YtkdebhgccpfkiaaGreatDoor.au
