import Derived.Test.YtkdebhgccpfkiaaGreatDoorQKX1
import Derived.Test.YtkdebhgccpfkiaaGreatDoorQKX5
import Derived.Test.YtkdebhgccpfkiaaGreatDoorQKX4
set_option maxRecDepth 100000
set_option maxHeartbeats 16000000
namespace Go.Proofs.YtkdebhgccpfkiaaGreatDoor.au
open Go.RowKit Go.Proofs.aa.az Go.Proofs.aa.aM Go.Proofs.aa.aU
attribute [local go_sem] ba bh
set_option linter.unusedVariables false
set_option linter.unusedSimpArgs false
def bn.f (k : Nat) (a0 : ByteArray) : Option (Int) := (ar.f k a0 32 32 32).bind fun t117 => (some t117)
theorem bn.calls (k : Nat) (a0 : ByteArray) (r : Int) (w : World) (h : bn.f k a0 = some r) :
  Calls Tryz.prog 40 #[.string a0] w fun e w' => e = .returned (.int .i64 r) ∧ ah w w' := by
 have H : ((ar.f k a0 32 32 32).bind fun t117 => (some t117)) = some r := h
 clear h
 replace H := Option.bind_eq_some_iff.mp H
 obtain ⟨t117,xR,H⟩ := H
 replace H : (some t117) = some r := H
 have A2 := U.mk xR
 clear xR
 obtain rfl := Option.some.inj H
 go_enter Tryz.func40,Tryz.ntmps40
 go_wp2_with (first | ((with_reducible refine aW (f := 56) rfl ?_); refine bK (some 4) rfl rfl Tryz.func56 (by kernel_rfl) rfl #[.string a0,.int .i64 32,.int .i64 32,.int .i64 32] rfl (by (try simp only [List.map_toArray,List.map_cons,List.map_nil]); first | done | rfl | (simp only [List.length_drop,List.length_take]; rfl)) ?_; (with_reducible refine (ar.calls k a0 32 32 32 t117 _ A2.out).mono ?_); rintro e w' ⟨rfl,⟨nd,rfl⟩⟩; refine ⟨_,rfl,?_⟩))
 go_ret
 exact ⟨by first | rfl | (simp; done) | (simp [*]; done),by repeat (first | exact ah.refl _ | apply ah.step)⟩
def cn.l0 : Nat → ByteArray → List ByteArray → Option (List ByteArray × Bool)
 | 0,_,_ => none
 | k + 1,x0,x4 => if x0.toList = ([] : List UInt8) then (some (x4,true)) else ((bn.f k x0).bind fun t118 => (if t118 = 0 then (some (([] : List ByteArray),false)) else (if 0 ≤ t118 then (if t118 ≤ (x0.size : Int) then (if x4.length < 8796093022208 then (cn.l0 k (x0.extract (t118 : Int).toNat x0.size) (x4 ++ [x0.extract 0 (t118 : Int).toNat])) else (none)) else (none)) else (none))))
def cn.f (k : Nat) (a0 : ByteArray) : Option (List ByteArray × Bool) := if (a0.size : Int) > 255 then (some (([] : List ByteArray),false)) else (cn.l0 k a0 ([] : List ByteArray))
theorem cn.calls (k : Nat) (a0 : ByteArray) (r1 : List ByteArray) (r2 : Bool) (w : World) (h : cn.f k a0 = some (r1,r2)) :
  Calls Tryz.prog 21 #[.string a0] w fun e w' => ∃ AM : Value,e = .returned (.tuple #[AM,.bool r2]) ∧ Kd.R Kd.string 9 w' w.heap.size (fun _ => True) AM r1 ∧ Below w.heap.size w w' := by
 have HB := U.mk (Below.refl w.heap.size w)
 have H : (if (a0.size : Int) > 255 then (some (([] : List ByteArray),false)) else (cn.l0 k a0 ([] : List ByteArray))) = some (r1,r2) := h
 clear h
 by_cases c2 : (a0.size : Int) > 255
 ·rw [if_pos c2] at H
  have df : decide (255 < (a0.size : Int)) = true := decide_eq_true c2
  have eF : decide (255 < a0.size) = true := decide_eq_true (by omega)
  clear c2
  simp only [Option.some.injEq,Prod.mk.injEq] at H
  obtain ⟨rfl,rfl⟩ := H
  go_enter Tryz.func21,Tryz.ntmps21
  go_wp2
  go_ret2
  exact ⟨_,by first | rfl | (simp [bc,bb] <;> rfl) | (simp [*,bc,bb] <;> rfl) | (simp (disch := omega) only [cA] <;> rfl),by first | exact Kd.Ax _ _ _ _ _ | exact Kd.CZ _ _ _ _ _ | exact Kd.CR _ _ _ _ _ | exact Kd.CY _ _ _ _ _ | exact Kd.CV _ _ _ _ _,by repeat (first | (with_reducible first | exact HB.out | apply ab | apply ai | apply ak) | exact HB.out)⟩
 ·rw [if_neg c2] at H
  have df : decide (255 < (a0.size : Int)) = false := decide_eq_false c2
  have eF : decide (255 < a0.size) = false := decide_eq_false (by omega)
  clear c2
  have H' := U.mk H
  clear H
  go_enter Tryz.func21,Tryz.ntmps21
  go_wp2
  go_loopg [0,4] k (fun kq v0 v4 w' => ∃ (bW : ByteArray) (ca : List ByteArray),v0 = .string bW ∧ U (cn.l0 kq bW ca = some (r1,r2)) ∧ U (kq ≤ k) ∧ U (Kd.R Kd.string 9 w' w.heap.size (fun _ => True) v4 ca) ∧ U (Below w.heap.size w w'))
  case atStart => exact ⟨(a0),(([] : List ByteArray)),(by first | rfl | (simp; done) | (simp [*]; done)),H', ⟨Nat.le_refl _⟩,⟨by first | exact Kd.Ax _ _ _ _ _ | exact Kd.CZ _ _ _ _ _ | exact Kd.CR _ _ _ _ _ | exact Kd.CY _ _ _ _ _ | exact Kd.CV _ _ _ _ _⟩,⟨by repeat (first | (with_reducible first | exact HB.out | apply ab | apply ai | apply ak) | exact HB.out)⟩⟩
  case round=>
   clear H'
   try clear c2
   try clear df
   try clear eF
   try clear p2
   obtain ⟨bW,ca,rfl,HA,fu,SB,HB⟩ := hrel
   cases gk with
   | zero => exact absurd HA.out (by simp [cn.l0])
   | succ k1=>
    have H := HA.out
    clear HA
    simp only [cn.l0] at H
    by_cases c3 : bW.toList = ([] : List UInt8)
    ·rw [if_pos c3] at H
     have cI : (bW.toList == ([] : List UInt8)) = true := beq_iff_eq.mpr c3
     have ej : (bW.toList != ([] : List UInt8)) = false := bne_eq_false_iff_eq.mpr c3
     clear c3
     simp only [Option.some.injEq,Prod.mk.injEq] at H
     obtain ⟨rfl,rfl⟩ := H
     go_wp2
     go_ret2
     exact ⟨_,by first | rfl | (simp [bc,bb] <;> rfl) | (simp [*,bc,bb] <;> rfl) | (simp (disch := omega) only [cA] <;> rfl),by (with_reducible repeat (first | apply Kd.cu | apply Kd.cJ | apply Kd.de)); exact SB.out,by repeat (first | (with_reducible first | exact HB.out | apply ab | apply ai | apply ak) | exact HB.out)⟩
    ·rw [if_neg c3] at H
     have cI : (bW.toList == ([] : List UInt8)) = false := beq_eq_false_iff_ne.mpr c3
     have ej : (bW.toList != ([] : List UInt8)) = true := bne_iff_ne.mpr c3
     replace H := Option.bind_eq_some_iff.mp H
     obtain ⟨t118,A40,H⟩ := H
     replace H : (if t118 = 0 then (some (([] : List ByteArray),false)) else (if 0 ≤ t118 then (if t118 ≤ (bW.size : Int) then (if ca.length < 8796093022208 then (cn.l0 k1 (bW.extract (t118 : Int).toNat bW.size) (ca ++ [bW.extract 0 (t118 : Int).toNat])) else (none)) else (none)) else (none))) = some (r1,r2) := H
     have A4 := U.mk A40
     clear A40
     by_cases c5 : t118 = 0
     ·rw [if_pos c5] at H
      have cW : (t118 == 0) = true := beq_iff_eq.mpr c5
      have dH : (t118 != 0) = false := bne_eq_false_iff_eq.mpr c5
      clear c5
      simp only [Option.some.injEq,Prod.mk.injEq] at H
      obtain ⟨rfl,rfl⟩ := H
      go_wp2_with (first | ((with_reducible refine aW (f := 40) rfl ?_); refine bK (some 12) rfl rfl Tryz.func40 (by kernel_rfl) rfl #[.string bW] rfl (by (try simp only [List.map_toArray,List.map_cons,List.map_nil]); first | done | rfl | (simp only [List.length_drop,List.length_take]; rfl)) ?_; (with_reducible refine (bn.calls k1 bW t118 _ A4.out).mono ?_); rintro e w' ⟨rfl,⟨nd,rfl⟩⟩; refine ⟨_,rfl,?_⟩))
      go_ret2
      exact ⟨_,by first | rfl | (simp [bc,bb] <;> rfl) | (simp [*,bc,bb] <;> rfl) | (simp (disch := omega) only [cA] <;> rfl),by first | exact Kd.Ax _ _ _ _ _ | exact Kd.CZ _ _ _ _ _ | exact Kd.CR _ _ _ _ _ | exact Kd.CY _ _ _ _ _ | exact Kd.CV _ _ _ _ _,by repeat (first | (with_reducible first | exact HB.out | apply ab | apply ai | apply ak) | exact HB.out)⟩
     ·rw [if_neg c5] at H
      have cW : (t118 == 0) = false := beq_eq_false_iff_ne.mpr c5
      have dH : (t118 != 0) = true := bne_iff_ne.mpr c5
      by_cases c6 : 0 ≤ t118
      ·rw [if_pos c6] at H
       have eg := eq_true c6
       have fR : decide (0 ≤ t118) = true := decide_eq_true c6
       clear c6
       by_cases c7 : t118 ≤ (bW.size : Int)
       ·rw [if_pos c7] at H
        have dn := eq_true c7
        have eZ : decide (t118 ≤ (bW.size : Int)) = true := decide_eq_true c7
        clear c7
        by_cases c8 : ca.length < 8796093022208
        ·rw [if_pos c8] at H
         have afU := U.mk c8
         clear c8
         obtain ⟨Xj,Ej⟩ : ∃ y_ : List ByteArray,y_ = (ca ++ [bW.extract 0 (t118 : Int).toNat]) := ⟨_,rfl⟩
         replace H : (cn.l0 k1 (bW.extract (t118 : Int).toNat bW.size) Xj) = some (r1,r2) := by first | (rw [Ej]; with_reducible exact H) | (have jb := (Option.bind_some _ _).symm.trans H; rw [Ej]; with_reducible exact jb) | (have jb := (Option.bind_some _ _).symm.trans H; with_reducible exact jb) | with_reducible exact H | (rw [Ej]; exact H) | exact H
         have adG := U.mk Ej
         clear Ej
         have eC := eq_true (of_decide_eq_true (by first | (with_reducible assumption) | assumption) : 0 ≤ t118)
         have fa := eq_true (of_decide_eq_true (by first | (with_reducible assumption) | assumption) : t118 ≤ (bW.size : Int))
         have H' := U.mk H
         clear H
         go_wp2_with (first | ((with_reducible refine aW (f := 40) rfl ?_); refine bK (some 12) rfl rfl Tryz.func40 (by kernel_rfl) rfl #[.string bW] rfl (by (try simp only [List.map_toArray,List.map_cons,List.map_nil]); first | done | rfl | (simp only [List.length_drop,List.length_take]; rfl)) ?_; (with_reducible refine (bn.calls k1 bW t118 _ A4.out).mono ?_); rintro e w' ⟨rfl,⟨nd,rfl⟩⟩; refine ⟨_,rfl,?_⟩) | ((with_reducible refine gN (b := .append) (xs := #[.tmp 15,.tmp 19]) rfl ?_); at_builtin; refine Kd.vH Kd.string (w0 := w) w.heap.size rfl (.tmp 15) (.tmp 19) 43 9 (.string ⟨#[]⟩) 16 rfl Tryz.underlying43 LV rfl (by decide) (by omega) u4 ca (bW.extract 0 (t118 : Int).toNat) [.string (bW.extract 0 (t118 : Int).toNat)] (fun _ => True) (fun _ => False) rfl rfl ?aP (fun _ hk => hk.elim) ?aF ?aO ?aB ?aS ?aL ?_; (case aP => exact rfl); (case aB => exact (by repeat (first | (with_reducible first | exact HB.out | apply ab | apply ai | apply ak) | exact HB.out))); (case aF => exact (fun _ _ => trivial)); (case aO => exact (by (with_reducible repeat (first | apply Kd.cu | apply Kd.cJ | apply Kd.de)); exact SB.out)); (case aS => exact (br (by repeat (first | (with_reducible first | exact HB.out | apply ab | apply ai | apply ak) | exact HB.out)))); (case aL => have := afU.out; omega); intro ahJ vM ho hb hg cM; rw [← adG.out] at ho; have bM := U.mk (hb); have cq := U.mk (ho); clear HB; clear SB; have HB := bM; have adR := cq; clear bM cq; clear ho hb hg cM))
         go_roundg k1
         case measure => have := fu.out; omega
         case rel => exact ⟨(bW.extract (t118 : Int).toNat bW.size),(Xj),(by first | rfl | (simp; done) | (simp [*]; done)),H', ⟨by have := fu.out; omega⟩,⟨by (with_reducible repeat (first | apply Kd.cu | apply Kd.cJ | apply Kd.de)); exact adR.out⟩,⟨by repeat (first | (with_reducible first | exact HB.out | apply ab | apply ai | apply ak) | exact HB.out)⟩⟩
        ·rw [if_neg c8] at H
         exact absurd H (by simp)
       ·rw [if_neg c7] at H
        exact absurd H (by simp)
      ·rw [if_neg c6] at H
       exact absurd H (by simp)
def zS.f (k : Nat) (a0 : ByteArray) : Option (Bool) := (cn.f k a0).bind fun Mp => (some Mp.2)
theorem zS.calls (k : Nat) (a0 : ByteArray) (r : Bool) (w : World) (h : zS.f k a0 = some r) :
  Calls Tryz.prog 14 #[.string a0] w fun e w' => e = .returned (.bool r) ∧ Below w.heap.size w w' := by
 have HB := U.mk (Below.refl w.heap.size w)
 have H : ((cn.f k a0).bind fun Mp => (some Mp.2)) = some r := h
 clear h
 replace H := Option.bind_eq_some_iff.mp H
 obtain ⟨⟨t122,t123⟩,xR,H⟩ := H
 replace H : (some t123) = some r := H
 have A2 := U.mk xR
 clear xR
 obtain rfl := Option.some.inj H
 go_enter Tryz.func14,Tryz.ntmps14
 go_wp2_with (first | ((with_reducible refine aW (f := 21) rfl ?_); refine bK (some 7) rfl rfl Tryz.func21 (by kernel_rfl) rfl #[.string a0] rfl (by (try simp only [List.map_toArray,List.map_cons,List.map_nil]); first | done | rfl | (simp only [List.length_drop,List.length_take]; rfl)) ?_; (with_reducible refine (cn.calls k a0 t122 t123 _ A2.out).mono ?_); rintro e w3 ⟨v124,rfl,jX,hb⟩; refine ⟨_,rfl,?_⟩; have bM := U.mk (Kd.kB jX (br (by repeat (first | (with_reducible first | exact HB.out | apply ab | apply ai | apply ak) | exact HB.out)))); have cq := U.mk (aw (by repeat (first | (with_reducible first | exact HB.out | apply ab | apply ai | apply ak) | exact HB.out)) hb); clear HB; have ahz := bM; have HB := cq; clear bM cq; (try clear hb); (try clear hb2); (try clear hk); (try clear hi); (try clear jX)))
 go_ret
 exact ⟨by first | rfl | (simp [bc,bb] <;> rfl) | (simp [*,bc,bb] <;> rfl) | (simp (disch := omega) only [cA] <;> rfl),by repeat (first | (with_reducible first | exact HB.out | apply ab | apply ai | apply ak) | exact HB.out)⟩
def iS.f (a0 : Int) (a1 : Int) : Option (Bool) := if a0 = 121 then (some (decide (a1 < 256))) else (if a0 = 98 then (some (decide (a1 < 2))) else (if a0 = 110 then (some ((IntKind.u64.wrap (wrap64 (IntKind.i16.wrap (a1)))) == a1)) else (if a0 = 113 then (some (decide (a1 < 65536))) else (if a0 = 105 then (some ((IntKind.u64.wrap (wrap64 (wrap32 (a1)))) == a1)) else (if a0 = 117 then (some (decide (a1 < 4294967296))) else (if a0 = 104 then (some (decide (a1 < 4294967296))) else (if a0 = 120 then (some true) else (if a0 = 116 then (some true) else (if a0 = 100 then (some true) else (some (a1 == 0)))))))))))
theorem iS.calls (a0 : Int) (a1 : Int) (r : Bool) (w : World) (h : iS.f a0 a1 = some r) :
  Calls Tryz.prog 22 #[.int .u8 a0,.int .u64 a1] w fun e w' => e = .returned (.bool r) ∧ ah w w' := by
 have H : (if a0 = 121 then (some (decide (a1 < 256))) else (if a0 = 98 then (some (decide (a1 < 2))) else (if a0 = 110 then (some ((IntKind.u64.wrap (wrap64 (IntKind.i16.wrap (a1)))) == a1)) else (if a0 = 113 then (some (decide (a1 < 65536))) else (if a0 = 105 then (some ((IntKind.u64.wrap (wrap64 (wrap32 (a1)))) == a1)) else (if a0 = 117 then (some (decide (a1 < 4294967296))) else (if a0 = 104 then (some (decide (a1 < 4294967296))) else (if a0 = 120 then (some true) else (if a0 = 116 then (some true) else (if a0 = 100 then (some true) else (some (a1 == 0)))))))))))) = some r := h
 clear h
 by_cases c3 : a0 = 121
 ·rw [if_pos c3] at H
  have cI : (a0 == 121) = true := beq_iff_eq.mpr c3
  have ej : (a0 != 121) = false := bne_eq_false_iff_eq.mpr c3
  clear c3
  obtain rfl := Option.some.inj H
  go_enter Tryz.func22,Tryz.ntmps22
  go_wp2
  go_ret
  exact ⟨by first | rfl | (simp; done) | (simp [*]; done),by repeat (first | exact ah.refl _ | apply ah.step)⟩
 ·rw [if_neg c3] at H
  have cI : (a0 == 121) = false := beq_eq_false_iff_ne.mpr c3
  have ej : (a0 != 121) = true := bne_iff_ne.mpr c3
  by_cases c4 : a0 = 98
  ·rw [if_pos c4] at H
   have ei : (a0 == 98) = true := beq_iff_eq.mpr c4
   have gl : (a0 != 98) = false := bne_eq_false_iff_eq.mpr c4
   clear c4
   obtain rfl := Option.some.inj H
   go_enter Tryz.func22,Tryz.ntmps22
   go_wp2
   go_ret
   exact ⟨by first | rfl | (simp; done) | (simp [*]; done),by repeat (first | exact ah.refl _ | apply ah.step)⟩
  ·rw [if_neg c4] at H
   have ei : (a0 == 98) = false := beq_eq_false_iff_ne.mpr c4
   have gl : (a0 != 98) = true := bne_iff_ne.mpr c4
   by_cases c5 : a0 = 110
   ·rw [if_pos c5] at H
    have cW : (a0 == 110) = true := beq_iff_eq.mpr c5
    have dH : (a0 != 110) = false := bne_eq_false_iff_eq.mpr c5
    clear c5
    obtain rfl := Option.some.inj H
    go_enter Tryz.func22,Tryz.ntmps22
    go_wp2
    go_ret
    exact ⟨by first | rfl | (simp; done) | (simp [*]; done),by repeat (first | exact ah.refl _ | apply ah.step)⟩
   ·rw [if_neg c5] at H
    have cW : (a0 == 110) = false := beq_eq_false_iff_ne.mpr c5
    have dH : (a0 != 110) = true := bne_iff_ne.mpr c5
    by_cases c6 : a0 = 113
    ·rw [if_pos c6] at H
     have eg : (a0 == 113) = true := beq_iff_eq.mpr c6
     have fR : (a0 != 113) = false := bne_eq_false_iff_eq.mpr c6
     clear c6
     obtain rfl := Option.some.inj H
     go_enter Tryz.func22,Tryz.ntmps22
     go_wp2
     go_ret
     exact ⟨by first | rfl | (simp; done) | (simp [*]; done),by repeat (first | exact ah.refl _ | apply ah.step)⟩
    ·rw [if_neg c6] at H
     have eg : (a0 == 113) = false := beq_eq_false_iff_ne.mpr c6
     have fR : (a0 != 113) = true := bne_iff_ne.mpr c6
     by_cases c7 : a0 = 105
     ·rw [if_pos c7] at H
      have dn : (a0 == 105) = true := beq_iff_eq.mpr c7
      have eZ : (a0 != 105) = false := bne_eq_false_iff_eq.mpr c7
      clear c7
      obtain rfl := Option.some.inj H
      go_enter Tryz.func22,Tryz.ntmps22
      go_wp2
      go_ret
      exact ⟨by first | rfl | (simp; done) | (simp [*]; done),by repeat (first | exact ah.refl _ | apply ah.step)⟩
     ·rw [if_neg c7] at H
      have dn : (a0 == 105) = false := beq_eq_false_iff_ne.mpr c7
      have eZ : (a0 != 105) = true := bne_iff_ne.mpr c7
      by_cases c8 : a0 = 117
      ·rw [if_pos c8] at H
       have eD : (a0 == 117) = true := beq_iff_eq.mpr c8
       have jr : (a0 != 117) = false := bne_eq_false_iff_eq.mpr c8
       clear c8
       obtain rfl := Option.some.inj H
       go_enter Tryz.func22,Tryz.ntmps22
       go_wp2
       go_ret
       exact ⟨by first | rfl | (simp; done) | (simp [*]; done),by repeat (first | exact ah.refl _ | apply ah.step)⟩
      ·rw [if_neg c8] at H
       have eD : (a0 == 117) = false := beq_eq_false_iff_ne.mpr c8
       have jr : (a0 != 117) = true := bne_iff_ne.mpr c8
       by_cases c9 : a0 = 104
       ·rw [if_pos c9] at H
        have eC : (a0 == 104) = true := beq_iff_eq.mpr c9
        have j8 : (a0 != 104) = false := bne_eq_false_iff_eq.mpr c9
        clear c9
        obtain rfl := Option.some.inj H
        go_enter Tryz.func22,Tryz.ntmps22
        go_wp2
        go_ret
        exact ⟨by first | rfl | (simp; done) | (simp [*]; done),by repeat (first | exact ah.refl _ | apply ah.step)⟩
       ·rw [if_neg c9] at H
        have eC : (a0 == 104) = false := beq_eq_false_iff_ne.mpr c9
        have j8 : (a0 != 104) = true := bne_iff_ne.mpr c9
        by_cases cC : a0 = 120
        ·rw [if_pos cC] at H
         have fa : (a0 == 120) = true := beq_iff_eq.mpr cC
         have jl : (a0 != 120) = false := bne_eq_false_iff_eq.mpr cC
         clear cC
         obtain rfl := Option.some.inj H
         go_enter Tryz.func22,Tryz.ntmps22
         go_wp2
         go_ret
         exact ⟨by first | rfl | (simp; done) | (simp [*]; done),by repeat (first | exact ah.refl _ | apply ah.step)⟩
        ·rw [if_neg cC] at H
         have fa : (a0 == 120) = false := beq_eq_false_iff_ne.mpr cC
         have jl : (a0 != 120) = true := bne_iff_ne.mpr cC
         by_cases bE : a0 = 116
         ·rw [if_pos bE] at H
          have dJ : (a0 == 116) = true := beq_iff_eq.mpr bE
          have eS : (a0 != 116) = false := bne_eq_false_iff_eq.mpr bE
          clear bE
          obtain rfl := Option.some.inj H
          go_enter Tryz.func22,Tryz.ntmps22
          go_wp2
          go_ret
          exact ⟨by first | rfl | (simp; done) | (simp [*]; done),by repeat (first | exact ah.refl _ | apply ah.step)⟩
         ·rw [if_neg bE] at H
          have dJ : (a0 == 116) = false := beq_eq_false_iff_ne.mpr bE
          have eS : (a0 != 116) = true := bne_iff_ne.mpr bE
          by_cases bP : a0 = 100
          ·rw [if_pos bP] at H
           have fj : (a0 == 100) = true := beq_iff_eq.mpr bP
           have jk : (a0 != 100) = false := bne_eq_false_iff_eq.mpr bP
           clear bP
           obtain rfl := Option.some.inj H
           go_enter Tryz.func22,Tryz.ntmps22
           go_wp2
           go_ret
           exact ⟨by first | rfl | (simp; done) | (simp [*]; done),by repeat (first | exact ah.refl _ | apply ah.step)⟩
          ·rw [if_neg bP] at H
           have fj : (a0 == 100) = false := beq_eq_false_iff_ne.mpr bP
           have jk : (a0 != 100) = true := bne_iff_ne.mpr bP
           obtain rfl := Option.some.inj H
           go_enter Tryz.func22,Tryz.ntmps22
           go_wp2
           go_ret
           exact ⟨by first | rfl | (simp; done) | (simp [*]; done),by repeat (first | exact ah.refl _ | apply ah.step)⟩
end Go.Proofs.YtkdebhgccpfkiaaGreatDoor.au
namespace Go.Proofs.YtkdebhgccpfkiaaGreatDoor.au
open Go.RowKit Go.Proofs.aa.az Go.Proofs.aa.aM Go.Proofs.aa.aU
attribute [local go_sem] ba bh
set_option linter.unusedVariables false
set_option linter.unusedSimpArgs false
theorem av.Qp {w : World} {base : Nat} {e : TypeId} {size n : Nat} {v : Value} {xs : List Value} (h : w.ownsRow base e size v n xs) {k : Nat} {s : ByteArray} {pos : Nat} (hk : w.heap[k]? = some (.stringIter s pos)) (pos' : Nat) : (w.iterAt k s pos').ownsRow base e size v n xs := by
 refine ⟨h.1,?_⟩
 rcases h.2 with hn | ⟨g,cap,cur,hv,hb,hg,rest⟩
 ·exact .inl hn
 ·refine .inr ⟨g,cap,cur,hv,hb,?_,rest⟩
  rw [Lib.iterAt_other _ _ _ _ _ (by intro q; rw [q,hk] at hg; cases hg)]
  exact hg
theorem av.Yq {w : World} {base e : Nat} {v : Value} {xs : List ByteArray} (h : Kd.R Kd.string e w base (fun _ => True) v xs) {k : Nat} {s : ByteArray} {pos : Nat} (hk : w.heap[k]? = some (.stringIter s pos)) (pos' : Nat) : Kd.R Kd.string e (w.iterAt k s pos') base (fun _ => True) v xs:=
 Kd.Sy (av.Qp (Kd.Qn h) hk pos') (fun _ _ => trivial)
mutual
def av.j0 : Nat → ByteArray → Bool → Option (Bool)
 | 0,_,_ => none
 | k + 1,x3,Kg => if Kg = true then (some false) else (if x3.toList = ([47] : List UInt8) then (some true) else (if 1 ≤ (x3.size : Int) then ((bQ.f k (x3.extract 1 x3.size) (⟨#[47]⟩ : ByteArray)).bind fun t114 => (av.l0 k t114 (t114.length : Int) 0)) else (none)))
def av.l0 : Nat → List ByteArray → Int → Int → Option (Bool)
 | 0,_,_,_ => none
 | k + 1,x32,H4,AJ => if AJ < H4 then (if 0 ≤ AJ then (if AJ < (x32.length : Int) then (if ((gI ByteArray.empty x32 AJ).size : Int) = 0 then (some false) else (av.l1 k x32 H4 AJ (gI ByteArray.empty x32 AJ) 0)) else (none)) else (none)) else (some true)
def av.l1 : Nat → List ByteArray → Int → Int → ByteArray → Int → Option (Bool)
 | 0,_,_,_,_,_ => none
 | k + 1,x32,H4,AJ,SP,SO => if SO.toNat < SP.size then ((eh.f ((Utf8.decode SP SO.toNat).1 : Int)).bind fun t118 => (if t118 = true then (av.l1 k x32 H4 AJ SP ((SO.toNat + (Utf8.decode SP SO.toNat).2 : Nat) : Int)) else (some false))) else (av.l0 k x32 H4 (wrap64 (AJ + 1)))
end
def av.f (k : Nat) (a0 : ByteArray) : Option (Bool) := if (a0.size : Int) = 0 then (some false) else (if 0 < (a0.size : Int) then (if (bt a0 0) = 47 then (if 0 ≤ (wrap64 ((a0.size : Int) - 1)) then (if (wrap64 ((a0.size : Int) - 1)) < (a0.size : Int) then (if (bt a0 (wrap64 ((a0.size : Int) - 1))) = 47 then (av.j0 k a0 ((a0.size : Int) != 1)) else (av.j0 k a0 false)) else (none)) else (none)) else (some false)) else (none))
theorem av.calls (k : Nat) (a0 : ByteArray) (r : Bool) (w : World) (h : av.f k a0 = some r) :
  Calls Tryz.prog 70 #[.string a0] w fun e w' => e = .returned (.bool r) ∧ Below w.heap.size w w' := by
 have HB := U.mk (Below.refl w.heap.size w)
 have H : (if (a0.size : Int) = 0 then (some false) else (if 0 < (a0.size : Int) then (if (bt a0 0) = 47 then (if 0 ≤ (wrap64 ((a0.size : Int) - 1)) then (if (wrap64 ((a0.size : Int) - 1)) < (a0.size : Int) then (if (bt a0 (wrap64 ((a0.size : Int) - 1))) = 47 then (av.j0 k a0 ((a0.size : Int) != 1)) else (av.j0 k a0 false)) else (none)) else (none)) else (some false)) else (none))) = some r := h
 clear h
 by_cases c2 : (a0.size : Int) = 0
 ·rw [if_pos c2] at H
  have df : ((a0.size : Int) == 0) = true := beq_iff_eq.mpr c2
  have eF : ((a0.size : Int) != 0) = false := bne_eq_false_iff_eq.mpr c2
  clear c2
  obtain rfl := Option.some.inj H
  go_enter Tryz.func70,Tryz.ntmps70
  go_wp2
  go_ret
  exact ⟨by first | rfl | (simp [bc,bb] <;> rfl) | (simp [*,bc,bb] <;> rfl) | (simp (disch := omega) only [cA] <;> rfl),by repeat (first | (with_reducible first | exact HB.out | apply ab | apply ai | apply ak) | exact HB.out)⟩
 ·rw [if_neg c2] at H
  have df : ((a0.size : Int) == 0) = false := beq_eq_false_iff_ne.mpr c2
  have eF : ((a0.size : Int) != 0) = true := bne_iff_ne.mpr c2
  by_cases c3 : 0 < (a0.size : Int)
  ·rw [if_pos c3] at H
   have cI : decide (0 < (a0.size : Int)) = true := decide_eq_true c3
   have ej : decide (0 < a0.size) = true := decide_eq_true (by omega)
   clear c3
   by_cases c5 : (bt a0 0) = 47
   ·rw [if_pos c5] at H
    have cW : ((bt a0 0) == 47) = true := beq_iff_eq.mpr c5
    have dH : ((bt a0 0) != 47) = false := bne_eq_false_iff_eq.mpr c5
    clear c5
    have PJ := U.mk H
    clear H
    have p4 : 0 ≤ (0 : Int) := (by omega)
    have q4 : 0 < a0.size := (by have : (0 : Int) < (a0.size : Int) := of_decide_eq_true (by first | (with_reducible assumption) | assumption); omega)
    have iY : ∀ h : 0 < a0.size,((a0[0]'h).toNat : Int) = bt a0 0 := bq a0 0
    clear p4
    have jT : (0 < (a0.size : Int)) = True := eq_true (of_decide_eq_true (by first | (with_reducible assumption) | assumption))
    replace q4 := eq_true q4
    go_enter Tryz.func70,Tryz.ntmps70
    go_upto_region 6 with (fail)
    go_cut [26] (fun Yb wc => ∃ (kq : Nat) (G7 : Bool),Yb = .bool G7 ∧ U (av.j0 kq a0 G7 = some r) ∧ U (kq ≤ k) ∧ U (Below w.heap.size w wc))
    case first=>
     have H := PJ.out
     clear PJ
     obtain ⟨jV,Q5⟩ : ∃ j_ : Int,(wrap64 ((a0.size : Int) - 1)) = j_ := ⟨_,rfl⟩
     replace H : (if 0 ≤ (jV) then (if (jV) < (a0.size : Int) then (if (bt a0 (jV)) = 47 then (av.j0 k a0 ((a0.size : Int) != 1)) else (av.j0 k a0 false)) else (none)) else (none)) = some r := by first | (rw [Q5] at H; exact H) | (simp only [Q5] at H ⊢; exact H)
     have ahn : (IntKind.i64.wrap ((a0.size : Int) - 1)) = jV := (cL _).trans Q5
     by_cases c8 : 0 ≤ (jV)
     ·rw [if_pos c8] at H
      have eD : decide (0 ≤ (jV)) = true := decide_eq_true c8
      clear c8
      (first | rw [eD] | (simp only [cL,dr]; rw [eD]) | skip)
      by_cases c9 : (jV) < (a0.size : Int)
      ·rw [if_pos c9] at H
       have eC : decide ((jV) < (a0.size : Int)) = true := decide_eq_true c9
       clear c9
       by_cases bE : (bt a0 (jV)) = 47
       ·rw [if_pos bE] at H
        have dJ : ((bt a0 (jV)) == 47) = true := beq_iff_eq.mpr bE
        have eS : ((bt a0 (jV)) != 47) = false := bne_eq_false_iff_eq.mpr bE
        clear bE
        have H' := U.mk H
        clear H
        have Be : 0 ≤ ((jV) : Int) := of_decide_eq_true (by first | (with_reducible assumption) | assumption)
        have zx : (jV) < (a0.size : Int) := of_decide_eq_true (by first | (with_reducible assumption) | assumption)
        have LX := bq a0 (jV)
        replace Be := eq_true Be
        replace zx := eq_true zx
        go_wp2
        go_meet
        case rel => exact ⟨_,(((a0.size : Int) != 1)),(by first | rfl | (simp; done) | (simp [*]; done)),H', ⟨by first | omega | exact Nat.le_refl _⟩,⟨by repeat (first | (with_reducible first | exact HB.out | apply ab | apply ai | apply ak) | exact HB.out)⟩⟩
       ·rw [if_neg bE] at H
        have dJ : ((bt a0 (jV)) == 47) = false := beq_eq_false_iff_ne.mpr bE
        have eS : ((bt a0 (jV)) != 47) = true := bne_iff_ne.mpr bE
        have H' := U.mk H
        clear H
        have Be : 0 ≤ ((jV) : Int) := of_decide_eq_true (by first | (with_reducible assumption) | assumption)
        have zx : (jV) < (a0.size : Int) := of_decide_eq_true (by first | (with_reducible assumption) | assumption)
        have LX := bq a0 (jV)
        replace Be := eq_true Be
        replace zx := eq_true zx
        go_wp2
        go_meet
        case rel => exact ⟨_,(false),(by first | rfl | (simp; done) | (simp [*]; done)),H', ⟨by first | omega | exact Nat.le_refl _⟩,⟨by repeat (first | (with_reducible first | exact HB.out | apply ab | apply ai | apply ak) | exact HB.out)⟩⟩
      ·rw [if_neg c9] at H
       exact absurd H (by simp)
     ·rw [if_neg c8] at H
      exact absurd H (by simp)
    case rest=>
     clear PJ
     try clear c1
     try clear p1
     try clear q1
     try clear jy
     try clear c2
     try clear df
     try clear eF
     try clear p2
     try clear c3
     try clear cI
     try clear ej
     try clear p4
     try clear q4
     try clear iY
     try clear jT
     try clear c5
     try clear cW
     try clear dH
     try clear p6
     try clear c8
     try clear eD
     try clear c9
     try clear eC
     try clear Be
     try clear zx
     try clear LX
     try clear bE
     try clear dJ
     try clear eS
     try clear Be
     try clear p4
     try clear zx
     try clear q4
     obtain ⟨kq,G7,rfl,HA,Um,HB⟩ := hcut
     cases kq with
     | zero => exact absurd HA.out (by simp [av.j0])
     | succ KI=>
      have H := HA.out
      clear HA
      simp only [av.j0] at H
      by_cases bP : G7 = true
      ·subst bP
       have H1 : (some false) = some r := by rw [if_pos rfl] at H; exact H
       clear H
       have H := H1
       clear H1
       obtain rfl := Option.some.inj H
       go_wp2
       go_ret
       exact ⟨by first | rfl | (simp [bc,bb] <;> rfl) | (simp [*,bc,bb] <;> rfl) | (simp (disch := omega) only [cA] <;> rfl),by repeat (first | (with_reducible first | exact HB.out | apply ab | apply ai | apply ak) | exact HB.out)⟩
      ·replace bP := Bool.eq_false_iff.mpr bP
       subst bP
       have H1 : (if a0.toList = ([47] : List UInt8) then (some true) else (if 1 ≤ (a0.size : Int) then ((bQ.f KI (a0.extract 1 a0.size) (⟨#[47]⟩ : ByteArray)).bind fun t114 => (av.l0 KI t114 (t114.length : Int) 0)) else (none))) = some r := by rw [if_neg (show ¬ (false = true) by decide)] at H; exact H
       clear H
       have H := H1
       clear H1
       by_cases bV : a0.toList = ([47] : List UInt8)
       ·rw [if_pos bV] at H
        have dP : (a0.toList == ([47] : List UInt8)) = true := beq_iff_eq.mpr bV
        have gf : (a0.toList != ([47] : List UInt8)) = false := bne_eq_false_iff_eq.mpr bV
        clear bV
        obtain rfl := Option.some.inj H
        go_wp2
        go_ret
        exact ⟨by first | rfl | (simp [bc,bb] <;> rfl) | (simp [*,bc,bb] <;> rfl) | (simp (disch := omega) only [cA] <;> rfl),by repeat (first | (with_reducible first | exact HB.out | apply ab | apply ai | apply ak) | exact HB.out)⟩
       ·rw [if_neg bV] at H
        have dP : (a0.toList == ([47] : List UInt8)) = false := beq_eq_false_iff_ne.mpr bV
        have gf : (a0.toList != ([47] : List UInt8)) = true := bne_iff_ne.mpr bV
        by_cases cS : 1 ≤ (a0.size : Int)
        ·rw [if_pos cS] at H
         have iO := eq_true cS
         have kJ : decide (1 ≤ (a0.size : Int)) = true := decide_eq_true cS
         clear cS
         replace H := Option.bind_eq_some_iff.mp H
         obtain ⟨t114,J6,H⟩ := H
         replace H : (av.l0 KI t114 (t114.length : Int) 0) = some r := H
         have G2 := U.mk J6
         clear J6
         have H' := U.mk H
         clear H
         go_wp2_with (first | ((with_reducible refine aW (f := 100) rfl ?_); refine bK (some 31) rfl rfl Tryz.func100 (by kernel_rfl) rfl #[.string (a0.extract 1 a0.size),.string (⟨#[47]⟩ : ByteArray)] rfl (by (try simp only [List.map_toArray,List.map_cons,List.map_nil]); first | done | rfl | (simp only [List.length_drop,List.length_take]; rfl)) ?_; (with_reducible refine (bQ.calls KI (a0.extract 1 a0.size) (⟨#[47]⟩ : ByteArray) t114 _ G2.out).mono ?_); rintro e lR ⟨ahK,rfl,jX,hb⟩; refine ⟨_,rfl,?_⟩; have bM := U.mk (Kd.kB jX (br (by repeat (first | (with_reducible first | exact HB.out | apply ab | apply ai | apply ak) | exact HB.out)))); have cq := U.mk (aw (by repeat (first | (with_reducible first | exact HB.out | apply ab | apply ai | apply ak) | exact HB.out)) hb); clear HB; have Uf := bM; have HB := cq; clear bM cq; (try clear hb); (try clear hb2); (try clear hk); (try clear hi); (try clear jX); obtain ⟨af3,aaX,afm⟩ := Kd.kA Uf.out; subst afm))
         go_loopg [34] KI (fun kq v34 w' => ∃ (eR : Int),v34 = .int .i64 eR ∧ U (av.l0 kq t114 (t114.length : Int) eR = some r) ∧ U (kq ≤ KI) ∧ U (Kd.R Kd.string 9 w' w.heap.size (fun _ => True) (.slice af3 t114.length aaX) t114) ∧ U (Below w.heap.size w w'))
         case atStart => exact ⟨(0),(by first | rfl | (simp; done) | (simp [*]; done)),H', ⟨Nat.le_refl _⟩,⟨by (with_reducible repeat (first | apply Kd.cu | apply Kd.cJ | apply Kd.de)); exact Uf.out⟩,⟨by repeat (first | (with_reducible first | exact HB.out | apply ab | apply ai | apply ak) | exact HB.out)⟩⟩
         case round=>
          clear H'
          try clear c1
          try clear p1
          try clear q1
          try clear jy
          try clear c2
          try clear df
          try clear eF
          try clear p2
          try clear c3
          try clear cI
          try clear ej
          try clear p4
          try clear q4
          try clear iY
          try clear jT
          try clear c5
          try clear cW
          try clear dH
          try clear p6
          try clear c8
          try clear eD
          try clear c9
          try clear eC
          try clear Be
          try clear zx
          try clear LX
          try clear bE
          try clear dJ
          try clear eS
          try clear bP
          try clear bV
          try clear dP
          try clear gf
          try clear cS
          try clear iO
          try clear kJ
          try clear dU
          try clear p1
          try clear Be
          try clear p2
          try clear p4
          try clear p6
          try clear q1
          try clear zx
          try clear q4
          obtain ⟨eR,rfl,HA,E9,kL,HB⟩ := hrel
          cases gk with
          | zero => exact absurd HA.out (by simp [av.l0])
          | succ k2=>
           have H := HA.out
           clear HA
           simp only [av.l0] at H
           by_cases fk : eR < (t114.length : Int)
           ·rw [if_pos fk] at H
            have iN : decide (eR < (t114.length : Int)) = true := decide_eq_true fk
            clear fk
            by_cases iw : 0 ≤ eR
            ·rw [if_pos iw] at H
             have kG : decide (0 ≤ eR) = true := decide_eq_true iw
             clear iw
             by_cases fN : eR < (t114.length : Int)
             ·rw [if_pos fN] at H
              have kF : decide (eR < (t114.length : Int)) = true := decide_eq_true fN
              clear fN
              by_cases eL : ((gI ByteArray.empty t114 eR).size : Int) = 0
              ·rw [if_pos eL] at H
               have gb : (((gI ByteArray.empty t114 eR).size : Int) == 0) = true := beq_iff_eq.mpr eL
               have iM : (((gI ByteArray.empty t114 eR).size : Int) != 0) = false := bne_eq_false_iff_eq.mpr eL
               clear eL
               obtain rfl := Option.some.inj H
               have Bd : 0 ≤ (eR : Int) := of_decide_eq_true (by first | (with_reducible assumption) | assumption)
               have Bb : eR < (t114.length : Int) := of_decide_eq_true (by first | (with_reducible assumption) | assumption)
               obtain ⟨T4,Rj,KP⟩ := Kd.BM (Kd.DM kL.out).2.2 eR Bd Bb
               cases Rj
               replace Bd := eq_true Bd
               replace Bb := eq_true Bb
               go_wp2
               go_ret
               exact ⟨by first | rfl | (simp [bc,bb] <;> rfl) | (simp [*,bc,bb] <;> rfl) | (simp (disch := omega) only [cA] <;> rfl),by repeat (first | (with_reducible first | exact HB.out | apply ab | apply ai | apply ak) | exact HB.out)⟩
              ·rw [if_neg eL] at H
               have gb : (((gI ByteArray.empty t114 eR).size : Int) == 0) = false := beq_eq_false_iff_ne.mpr eL
               have iM : (((gI ByteArray.empty t114 eR).size : Int) != 0) = true := bne_iff_ne.mpr eL
               have H' := U.mk H
               clear H
               have Bd : 0 ≤ (eR : Int) := of_decide_eq_true (by first | (with_reducible assumption) | assumption)
               have Bb : eR < (t114.length : Int) := of_decide_eq_true (by first | (with_reducible assumption) | assumption)
               obtain ⟨T4,Rj,KP⟩ := Kd.BM (Kd.DM kL.out).2.2 eR Bd Bb
               cases Rj
               replace Bd := eq_true Bd
               replace Bb := eq_true Bb
               go_wp2
               generalize Zu : wr.heap.size = ib
               have HSZ : U (w.heap.size ≤ ib) := ⟨by rw [← Zu]; exact br HB.out⟩
               generalize Tg : gI ByteArray.empty t114 eR = vv at *
               go_loopg [] k2 (fun kq w' => ∃ (pos : Nat),U (av.l1 kq t114 (t114.length : Int) eR vv (pos : Int) = some r) ∧ U (kq ≤ k2) ∧ U (w'.heap[ib]? = some (.stringIter vv pos)) ∧ U (Kd.R Kd.string 9 w' w.heap.size (fun _ => True) (.slice (some T4) t114.length aaX) t114) ∧ U (Below w.heap.size w w'))
               case atStart => exact ⟨0,H', ⟨Nat.le_refl _⟩,⟨by rw [← Zu]; exact World.iter_heap _ _ _⟩,⟨by first | exact Kd.cu kL.out _ | (apply Kd.cu (w := wr); exact kL.out)⟩,⟨by first | exact ab HB.out _ | exact HB.out.alloc _⟩⟩
               case round=>
                clear H' Zu Tg
                try clear c1
                try clear p1
                try clear q1
                try clear jy
                try clear c2
                try clear df
                try clear eF
                try clear p2
                try clear c3
                try clear cI
                try clear ej
                try clear p4
                try clear q4
                try clear iY
                try clear jT
                try clear c5
                try clear cW
                try clear dH
                try clear p6
                try clear c8
                try clear eD
                try clear c9
                try clear eC
                try clear Be
                try clear zx
                try clear LX
                try clear bE
                try clear dJ
                try clear eS
                try clear Ir
                try clear D5
                try clear QV
                try clear bP
                try clear bV
                try clear dP
                try clear gf
                try clear cS
                try clear iO
                try clear kJ
                try clear dU
                try clear fk
                try clear iN
                try clear iw
                try clear kG
                try clear fN
                try clear kF
                try clear eL
                try clear gb
                try clear iM
                try clear KP
                try clear p1
                try clear Be
                try clear Bd
                try clear p2
                try clear p4
                try clear p6
                try clear q1
                try clear zx
                try clear Bb
                try clear q4
                obtain ⟨pos,HA,Ui,HI,kL,HB⟩ := hrel
                cases gk with
                | zero => exact absurd HA.out (by simp [av.l1])
                | succ k3=>
                 have H := HA.out
                 clear HA
                 simp only [av.l1,Int.toNat_natCast] at H
                 by_cases hp : pos < vv.size
                 ·rw [if_pos hp] at H
                  replace H := Option.bind_eq_some_iff.mp H
                  obtain ⟨tm,aci,H⟩ := H
                  have A23 := U.mk aci
                  clear aci
                  have zG : ∀ ty,(Instr.next (.pointer (some ⟨ib,0,none⟩)) true ty).run Tryz.prog wr = _ := fun ty => Lib.run_next_any_at wr ib vv pos ty HI.out hp
                  have DF := U.mk (Lib.iterAt_heap wr ib vv pos (pos + (Utf8.decode vv pos).2) HI.out)
                  have vC := U.mk (Lib.below_iterAt HB.out (k := ib) HSZ.out vv (pos + (Utf8.decode vv pos).2))
                  have QY := U.mk (av.Yq kL.out HI.out (pos + (Utf8.decode vv pos).2))
                  obtain ⟨W1,Gz⟩ : ∃ W1,W1 = wr.iterAt ib vv (pos + (Utf8.decode vv pos).2) := ⟨_,rfl⟩
                  rw [← Gz] at zG DF vC QY
                  clear Gz HI HB kL hp
                  have HB := vC
                  have kL := QY
                  clear vC QY
                  generalize ((Utf8.decode vv pos).1 : Int) = c at *
                  cases tm with
                  | true=>
                   simp only [if_true] at H
                   have H' := U.mk H
                   clear H
                   go_wp2_with (first | (go_at_call 101; (with_reducible refine (eh.calls c true _ A23.out).mono ?_); rintro e w' ⟨rfl,⟨nd2,rfl⟩⟩))
                   go_roundg k3
                   case measure => have := Um.out; have := E9.out; have := Ui.out; omega
                   case rel => exact ⟨_,H', ⟨by have := Um.out; have := E9.out; have := Ui.out; omega⟩,⟨DF.out⟩,⟨by (with_reducible repeat (first | apply Kd.cu | apply Kd.cJ | apply Kd.de)); exact kL.out⟩,⟨by repeat (first | (with_reducible first | exact HB.out | apply ab | apply ai | apply ak) | exact HB.out)⟩⟩
                  | false=>
                   simp only [Bool.false_eq_true,if_false] at H
                   obtain rfl := Option.some.inj H
                   clear H
                   go_wp2_with (first | (go_at_call 101; (with_reducible refine (eh.calls c false _ A23.out).mono ?_); rintro e w' ⟨rfl,⟨nd2,rfl⟩⟩))
                   go_ret
                   exact ⟨rfl,by repeat (first | (with_reducible first | exact HB.out | apply ab | apply ai | apply ak) | exact HB.out)⟩
                 ·rw [if_neg hp] at H
                  have H' := U.mk H
                  clear H
                  have zG : ∀ ty,(Instr.next (.pointer (some ⟨ib,0,none⟩)) true ty).run Tryz.prog wr = _ := fun ty => Lib.run_next_end_at wr ib vv pos ty HI.out hp
                  go_wp2
                  go_roundg k3
                  case measure => have := Um.out; have := E9.out; have := Ui.out; omega
                  case rel => exact ⟨(wrap64 (eR + 1)),(by first | rfl | (simp; done) | (simp [*]; done)),H', ⟨by have := Um.out; have := E9.out; have := Ui.out; omega⟩,⟨by (with_reducible repeat (first | apply Kd.cu | apply Kd.cJ | apply Kd.de)); exact kL.out⟩,⟨by repeat (first | (with_reducible first | exact HB.out | apply ab | apply ai | apply ak) | exact HB.out)⟩⟩
             ·rw [if_neg fN] at H
              exact absurd H (by simp)
            ·rw [if_neg iw] at H
             exact absurd H (by simp)
           ·rw [if_neg fk] at H
            have iN : decide (eR < (t114.length : Int)) = false := decide_eq_false fk
            clear fk
            obtain rfl := Option.some.inj H
            go_wp2
            go_ret
            exact ⟨by first | rfl | (simp [bc,bb] <;> rfl) | (simp [*,bc,bb] <;> rfl) | (simp (disch := omega) only [cA] <;> rfl),by repeat (first | (with_reducible first | exact HB.out | apply ab | apply ai | apply ak) | exact HB.out)⟩
        ·rw [if_neg cS] at H
         exact absurd H (by simp)
   ·rw [if_neg c5] at H
    have cW : ((bt a0 0) == 47) = false := beq_eq_false_iff_ne.mpr c5
    have dH : ((bt a0 0) != 47) = true := bne_iff_ne.mpr c5
    obtain rfl := Option.some.inj H
    have p4 : 0 ≤ (0 : Int) := (by omega)
    have q4 : 0 < a0.size := (by have : (0 : Int) < (a0.size : Int) := of_decide_eq_true (by first | (with_reducible assumption) | assumption); omega)
    have iY : ∀ h : 0 < a0.size,((a0[0]'h).toNat : Int) = bt a0 0 := bq a0 0
    clear p4
    have jT : (0 < (a0.size : Int)) = True := eq_true (of_decide_eq_true (by first | (with_reducible assumption) | assumption))
    replace q4 := eq_true q4
    go_enter Tryz.func70,Tryz.ntmps70
    go_wp2
    go_ret
    exact ⟨by first | rfl | (simp [bc,bb] <;> rfl) | (simp [*,bc,bb] <;> rfl) | (simp (disch := omega) only [cA] <;> rfl),by repeat (first | (with_reducible first | exact HB.out | apply ab | apply ai | apply ak) | exact HB.out)⟩
  ·rw [if_neg c3] at H
   exact absurd H (by simp)
end Go.Proofs.YtkdebhgccpfkiaaGreatDoor.au
namespace Go.Proofs.YtkdebhgccpfkiaaGreatDoor.au
open Go.RowKit Go.Proofs.aa.az Go.Proofs.aa.aM Go.Proofs.aa.aU
attribute [local go_sem] ba bh
set_option linter.unusedVariables false
set_option linter.unusedSimpArgs false
mutual
def lG.l0 : Nat → Int → List (aT) → Int → Int → Int → Int → ByteArray → List (aT) → Option (Int)
 | 0,_,_,_,_,_,_,_,_ => none
 | k + 1,x3,x7,x8,x9,yZ,UE,UD,UC => if x9 < x8 then (if 0 ≤ x9 then (if x9 < (x7.length : Int) then ((lG.f k ((aA x7 x9).f0) ((aA x7 x9).f1) ((aA x7 x9).f2) ((aA x7 x9).f3)).bind fun t154 => (lG.l0 k (mx x3 t154) x7 x8 (wrap64 (x9 + 1)) yZ UE UD UC)) else (none)) else (none)) else (if yZ = 97 then (some (wrap64 (x3 + 1))) else (if yZ = 40 then (some (wrap64 (x3 + 1))) else (if yZ = 123 then (some (wrap64 (x3 + 1))) else (if yZ = 118 then (some (wrap64 (x3 + 1))) else (some x3)))))
def lG.f : Nat → Int → Int → ByteArray → List (aT) → Option (Int)
 | 0,_,_,_,_ => none
 | k + 1,bw,bG,bu,aN => lG.l0 k 0 aN (aN.length : Int) 0 bw bG bu aN
end



def LK.f (a0 : Int) : Option (Bool) := (dC.f a0).bind fun t160 => (if t160 = true then (if a0 = 98 then (some false) else (if a0 = 103 then (some false) else (some (a0 != 100)))) else (some false))
def jw.l0 : Nat → ByteArray → Int → Option (Bool)
 | 0,_,_ => none
 | k + 1,x0,x3 => if (wrap64 (x3 + 1)) < (x0.size : Int) then (if 0 ≤ x3 then (if x3 < (x0.size : Int) then (if (bt x0 x3) = 123 then (if 0 ≤ (wrap64 (x3 + 1)) then ((LK.f (bt x0 (wrap64 (x3 + 1)))).bind fun t161 => (if t161 = true then (jw.l0 k x0 (wrap64 (x3 + 1))) else (some false))) else (none)) else (jw.l0 k x0 (wrap64 (x3 + 1)))) else (none)) else (none)) else (some true)
def jw.f (k : Nat) (a0 : ByteArray) : Option (Bool) := jw.l0 k a0 0
mutual
def iT.j0 : Nat → Bool → Int → Int → ByteArray → List (aT) → Option (Bool)
 | 0,_,_,_,_,_ => none
 | k + 1,x3,Fq,Fp,Fo,jJ => iT.l0 k x3 0 Fq Fp Fo jJ
def iT.l0 : Nat → Bool → Int → Int → Int → ByteArray → List (aT) → Option (Bool)
 | 0,_,_,_,_,_,_ => none
 | k + 1,x3,x4,Fq,Fp,Fo,jJ => if x3 = true then (if x4 < (jJ.length : Int) then (if 0 ≤ x4 then ((iT.f k ((aA jJ x4).f0) ((aA jJ x4).f1) ((aA jJ x4).f2) ((aA jJ x4).f3)).bind fun t165 => (iT.l0 k t165 (wrap64 (x4 + 1)) Fq Fp Fo jJ)) else (none)) else (some x3)) else (some x3)
def iT.f : Nat → Int → Int → ByteArray → List (aT) → Option (Bool)
 | 0,_,_,_,_ => none
 | k + 1,bw,bG,bu,aN => if bw = 97 then ((jw.f k bu).bind fun t163 => (iT.j0 k t163 bw bG bu aN)) else (iT.j0 k true bw bG bu aN)
end


end Go.Proofs.YtkdebhgccpfkiaaGreatDoor.au
