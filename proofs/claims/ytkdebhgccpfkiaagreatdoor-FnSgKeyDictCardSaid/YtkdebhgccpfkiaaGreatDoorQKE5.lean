import Derived.Test.YtkdebhgccpfkiaaGreatDoorQKE4
import Derived.Test.YtkdebhgccpfkiaaGreatDoorQKS2
import Derived.Test.YtkdebhgccpfkiaaGreatDoorQKS1
import Derived.Laws.Externs
set_option maxRecDepth 100000
set_option maxHeartbeats 16000000
namespace Go.Proofs.YtkdebhgccpfkiaaGreatDoor.au
open Go.RowKit Go.Proofs.aa.az Go.Proofs.aa.aM Go.Proofs.aa.aU
attribute [local go_sem] ba bh
set_option linter.unusedVariables false
set_option linter.unusedSimpArgs false
attribute [local go_sem] Hv EZ EY EW EU Hu CN CM CL E3 E0 CK CJ CI CH CG Am Al Aj CF ET ES CE CD CC CB Ai Ah Ag EP CA Cz Af Ae Ad EO Cy Cx Cw Cv Cu Ct CP At As Ar xQ xP xO xN CO Aq Ap Ao xM xL Ac
def Ls (w : World) (L : Nat) (S : ByteArray) (A : Option Nat) (cap : Nat) (vs : List Value) : Prop:=
 w.heap[L]? = some (.cells #[.string S,.slice (A.map fun g => ⟨g,0,none⟩) vs.length cap] 155 (0,0)) ∧ ∀ j v,vs[j]? = some v → ∃ g,A = some g ∧ w.cell? ⟨g,j,none⟩ = some v
theorem Ls.below {w W : World} {L : Nat} {S : ByteArray} {A : Option Nat} {cap : Nat} {vs : List Value} (h : Ls w L S A cap vs) (hb : Below w.heap.size w W) : Ls W L S A cap vs:=
 ⟨(hb.block L (Array.getElem?_eq_some_iff.1 h.1).1).trans h.1,fun j v hj => by obtain ⟨p,hp,hc⟩ := h.2 j v hj; exact ⟨p,hp,ag hb hc⟩⟩
theorem Ls.c1 {w : World} {L : Nat} {S : ByteArray} {A : Option Nat} {cap : Nat} {vs : List Value} (h : Ls w L S A cap vs) : w.cell? ⟨L,1,none⟩ = some (.slice (A.map fun g => ⟨g,0,none⟩) vs.length cap) := (cell_of_row w L 1 _ 155 (0,0) h.1).trans rfl
theorem Ec (w : World) (L : Nat) (S : ByteArray) (A : Option Nat) (cap : Nat) (vs : List Value) (h : Ls w L S A cap vs) : Calls Tryz.prog 102 #[.iface 153 (.pointer (some ⟨L,0,none⟩))] w fun e w' => e = .returned (.slice (A.map fun g => ⟨g,0,none⟩) vs.length cap) ∧ w' = w := by
 have c1 := h.c1
 clear h
 go_enter Tryz.func102,Tryz.ntmps102
 go_wp2
 go_ret
 exact ⟨rfl,rfl⟩
theorem NI (w : World) (L : Nat) (S S2 : ByteArray) (A : Option Nat) (cap : Nat) (vs : List Value) (h : Ls w L S A cap vs) : Calls Tryz.prog 71 #[.agg #[.iface 153 (.pointer (some ⟨L,0,none⟩)),.string S2]] w fun e w' => e = .returned (.int .i64 (vs.length : Int)) ∧ Below w.heap.size w w' := by
 have H := U.mk (Ec _ L S A cap vs (h.below (ab (Below.refl _ _) (.cells #[.iface 153 (.pointer (some ⟨L,0,none⟩)),.string S2] 86))))
 clear h
 go_enter Tryz.func71,Tryz.ntmps71
 go_wp2_with (go_at_call 102; refine H.out.mono ?_; rintro e w2 ⟨rfl,rfl⟩)
 go_ret
 exact ⟨rfl,ab (Below.refl _ _) _⟩
open Go.Proofs.YtkdebhgccpfkiaaGreatDoor.fD Go.Proofs.YtkdebhgccpfkiaaGreatDoor.fO Go.Proofs.YtkdebhgccpfkiaaGreatDoor.gw
theorem Mc (te : List UInt8) (w : World) : Calls Tryz.prog 74 #[.string (Bs (91 :: te))] w fun e w' => e = .returned (.string (Bs te)) ∧ Below w.heap.size w w' := by
 refine (b8.calls 9 _ _ w (JH te)).mono ?_
 rintro e w' ⟨rfl,nd,rfl⟩
 exact ⟨rfl,ai (Below.refl _ _) nd⟩
theorem Oa (w : World) (L : Nat) (S : ByteArray) (A : Option Nat) (cap : Nat) (vs : List Value) (h : Ls w L S A cap vs) (te : List UInt8) (i : Nat) (dT : TypeId) (u : Value) (hi : vs[i]? = some (.iface dT u)) (hlen : vs.length ≤ 1000) : Calls Tryz.prog 75 #[.agg #[.iface 153 (.pointer (some ⟨L,0,none⟩)),.string (Bs (91 :: te))],.int .i64 (i : Int)] w fun e w' => e = .returned (.agg #[.iface dT u,.string (Bs te)]) ∧ Below w.heap.size w w' := by
 obtain ⟨p,rfl,hc⟩ := h.2 i _ hi
 have hil : i < vs.length := (List.getElem?_eq_some_iff.1 hi).1
 have hb1 := ab (Below.refl w.heap.size w) (.cells #[.iface 153 (.pointer (some ⟨L,0,none⟩)),.string (Bs (91 :: te))] 86)
 have hb := ab hb1 (.cells #[.nilIface,.string ⟨#[]⟩] 86)
 have k1 := heap_alloc_new (w.alloc (.cells #[.iface 153 (.pointer (some ⟨L,0,none⟩)),.string (Bs (91 :: te))] 86)) (.cells #[.nilIface,.string ⟨#[]⟩] 86)
 have k0 : ((w.alloc (.cells #[.iface 153 (.pointer (some ⟨L,0,none⟩)),.string (Bs (91 :: te))] 86)).alloc (.cells #[.nilIface,.string ⟨#[]⟩] 86)).heap[w.heap.size]? = some (.cells #[.iface 153 (.pointer (some ⟨L,0,none⟩)),.string (Bs (91 :: te))] 86 (0,0)) := (heap_alloc_old _ _ (by simp)).trans (heap_alloc_new w _)
 rw [World.size_alloc] at k1
 have HK := U.mk (fun W' (hW : Below w.heap.size w W') => Ec W' L S (some p) cap vs (h.below hW))
 have HC := U.mk (fun W' (hW : Below w.heap.size w W') => ag hW hc)
 have Gy : (0 : Int) ≤ (i : Int) := by omega
 have hi1 : (i : Int) < (vs.length : Int) := by omega
 have hi2 : decide ((i : Int) < (vs.length : Int)) = true := by simpa using hil
 have g1 : ((0 : Int) ≤ (i : Int)) = True := eq_true Gy
 have g2 : ((i : Int) < (vs.length : Int)) = True := eq_true hi1
 have g3 : (i < vs.length) = True := eq_true hil
 have Lc := ak hb
 have GZ := U.mk Lc
 have KK : U (((w.alloc (.cells #[.iface 153 (.pointer (some ⟨L,0,none⟩)),.string (Bs (91 :: te))] 86)).alloc (.cells #[.nilIface,.string ⟨#[]⟩] 86)).drew.heap[w.heap.size]? = some (.cells #[.iface 153 (.pointer (some ⟨L,0,none⟩)),.string (Bs (91 :: te))] 86 (0,0)) ∧ ((w.alloc (.cells #[.iface 153 (.pointer (some ⟨L,0,none⟩)),.string (Bs (91 :: te))] 86)).alloc (.cells #[.nilIface,.string ⟨#[]⟩] 86)).drew.heap[w.heap.size + 1]? = some (.cells #[.nilIface,.string ⟨#[]⟩] 86 (0,0))) := ⟨k0,k1⟩
 clear h hi hc hb hb1 k0 k1 Lc
 go_enter Tryz.func75,Tryz.ntmps75
 go_wp2_with fail
 generalize ((w.alloc (.cells #[.iface 153 (.pointer (some ⟨L,0,none⟩)),.string (Bs (91 :: te))] 86)).alloc (.cells #[.nilIface,.string ⟨#[]⟩] 86)) = W0 at *
 have a0 : W0.drew.cell? ⟨w.heap.size,0,none⟩ = _ := (cell_of_row W0.drew w.heap.size 0 _ 86 (0,0) KK.out.1).trans rfl
 have a1 : W0.drew.cell? ⟨w.heap.size,1,none⟩ = _ := (cell_of_row W0.drew w.heap.size 1 _ 86 (0,0) KK.out.1).trans rfl
 have b0 : W0.drew.cell? ⟨w.heap.size + 1,0,none⟩ = _ := (cell_of_row W0.drew (w.heap.size + 1) 0 _ 86 (0,0) KK.out.2).trans rfl
 have b1 : W0.drew.cell? ⟨w.heap.size + 1,1,none⟩ = _ := (cell_of_row W0.drew (w.heap.size + 1) 1 _ 86 (0,0) KK.out.2).trans rfl
 have z0 := frozen_of_row W0.drew (w.heap.size + 1) 0 _ 86 KK.out.2
 have z1 := frozen_of_row W0.drew (w.heap.size + 1) 1 _ 86 KK.out.2
 have cc := HC.out _ GZ.out
 go_region_with (first
  | (go_at_call 102; refine (HK.out _ GZ.out).mono ?_; rintro e w2 ⟨rfl,rfl⟩)
  | (go_at_call 74; refine (Mc te _).mono ?_; rintro e w3 ⟨rfl,hb⟩; have Lc := aw GZ.out hb; have k0 := aQ hb KK.out.1; have k1 := aQ hb KK.out.2; have GZ := U.mk Lc; have KK := U.mk (And.intro k0 k1); have cc3 := HC.out _ Lc; have a03 : w3.cell? ⟨w.heap.size,0,none⟩ = _ := (cell_of_row w3 w.heap.size 0 _ 86 (0,0) k0).trans rfl; have b03 : w3.cell? ⟨w.heap.size + 1,0,none⟩ = _ := (cell_of_row w3 (w.heap.size + 1) 0 _ 86 (0,0) k1).trans rfl; have b13 : w3.cell? ⟨w.heap.size + 1,1,none⟩ = _ := (cell_of_row w3 (w.heap.size + 1) 1 _ 86 (0,0) k1).trans rfl; have z03 := frozen_of_row w3 (w.heap.size + 1) 0 _ 86 k1; have z13 := frozen_of_row w3 (w.heap.size + 1) 1 _ 86 k1; clear hb Lc k0 k1))
 all_goals
  go_wp2
  refine bodyPost_ret (results_cell_row rfl _ _ (w.heap.size + 1) 86 _ (0,0) _ rfl (heap_setCell_same _ _ 1 _ _ (.string (Bs te)) (heap_setCell_same _ _ 0 _ _ (.iface dT u) KK.out.2)) Tryz.underlying86 rfl Hi) rfl ?_
  exact ⟨rfl,(GZ.out.setCell (by show w.heap.size ≤ w.heap.size + 1; omega) _).setCell (by show w.heap.size ≤ w.heap.size + 1; omega) _⟩
end Go.Proofs.YtkdebhgccpfkiaaGreatDoor.au
namespace Go.Proofs.YtkdebhgccpfkiaaGreatDoor.au
open Go.RowKit Go.Proofs.aa.az Go.Proofs.aa.aM Go.Proofs.aa.aU
attribute [local go_sem] ba bh
set_option linter.unusedVariables false
set_option linter.unusedSimpArgs false
attribute [local go_sem] jB kK iy fW fV fw fU fT
open Go.Proofs.YtkdebhgccpfkiaaGreatDoor.fD Go.Proofs.YtkdebhgccpfkiaaGreatDoor.fO Go.Proofs.YtkdebhgccpfkiaaGreatDoor.gw
theorem aau (Sx : Nat → Prop) (w0 : World) (L : Nat) (A : Option Nat) (cap : Nat) (vs : List Value) (te : List UInt8) (Ks : List Nat) (d al : Nat) (gM : al = 1 ∨ al = 2 ∨ al = 4 ∨ al = 8) (AE : ∀ W,Calls Tryz.prog 60 #[.string (Bs te)] W fun e w' => e = .returned (.int .i64 (al : Int)) ∧ Below W.heap.size W w') (cf : Ks.length = vs.length) (hn : vs.length ≤ 1000) (BF : Ks.sum ≤ 67000000)
 (hL : ∀ W : World,(∀ k,Sx k → W.heap[k]? = w0.heap[k]?) → Ls W L (Bs te) A cap vs)
 (dD : ∀ (j : Nat) v,vs[j]? = some v → ∃ dT u S,v = .iface dT u ∧ EV w0 S v te d (Ks.getD j 0) ∧ ∀ k,S k → Sx k) :
 G1 w0 Sx (.iface 153 (.pointer (some ⟨L,0,none⟩))) (91 :: te) (d + 1) (Ks.sum + 60) := by
 intro W hW B e b r pos m ord dep BD hE ho hT hB cm dt hp hm
 have kQ : decide (64 < dep) = false := by simp; omega
 have H0 := U.mk hE
 have N0 := U.mk (St.start (.iface 153 (.pointer (some ⟨L,0,none⟩))) (.string (Bs (91 :: te))) hE)
 have y0 := N0.out.x0
 have y1 := N0.out.x1
 have HK := U.mk (And.intro hL (And.intro dD (And.intro hW BD)))
 have HO := U.mk (And.intro ho (And.intro hT hB))
 have BU := U.mk (And.intro gM AE)
 have h7 := dZ (x := pos) (a := 4) (by omega)
 obtain ⟨q,hq⟩ : ∃ q,pd pos 4 = q := ⟨_,rfl⟩
 rw [hq] at h7
 have HQ := U.mk hq
 have Y8 := dZ (x := pos + q + 0) (a := 4) (by omega)
 obtain ⟨pz,I7⟩ : ∃ pz,pd (pos + q + 0) 4 = pz := ⟨_,rfl⟩
 rw [I7] at Y8
 have HPZ := U.mk I7
 obtain ⟨n1,iK⟩ : ∃ n1,pz + 4 = n1 := ⟨_,rfl⟩
 have hwz : IntKind.i64.wrap ((pz : Int) + 4) = (n1 : Int) := by rw [IntKind.wrap_i64]; omega
 obtain ⟨off,hoff⟩ : ∃ off,off = pos + q + n1 + pd (pos + q + n1) al := ⟨_,rfl⟩
 have Zk := dZ (x := pos + q + n1) gM
 have jF : U (off = pos + q + n1 + pd (pos + q + n1) al ∧ off ≤ pos + 40 ∧ n1 ≤ 20) := ⟨hoff,by omega,by omega⟩
 obtain ⟨KS,BG⟩ : ∃ KS,Ks.sum = KS := ⟨_,rfl⟩
 rw [BG] at hp hm BF ⊢
 have AG := U.mk (And.intro BG cf)
 obtain ⟨n,fL⟩ : ∃ n,vs.length = n := ⟨_,rfl⟩
 rw [fL] at hn
 have HN := U.mk fL
 obtain ⟨gj,Ex⟩ : ∃ gj,dep + 1 = gj := ⟨_,rfl⟩
 have Y' : IntKind.i64.wrap (dep + 1) = gj := by rw [IntKind.wrap_i64]; omega
 have HD : U (0 ≤ gj ∧ gj + (d : Int) ≤ 64 ∧ 0 ≤ dep ∧ dep ≤ 64) := ⟨by omega,by omega,cm,by omega⟩
 clear hE cm dt hq ho hT hB hL dD hW BD Ex cf BG fL gM AE I7 iK hoff Zk
 go_enter Tryz.func47,Tryz.ntmps47
 go_wp2_with (first
  | (go_at_call 61; refine (bC _ rfl _ _).mono ?_; rintro e1 w2 ⟨rfl,hb⟩; have N1 := U.mk (N0.out.up hb); have z0 := N1.out.x0; have z1 := N1.out.x1; clear hb)
  | (go_at_call 60; refine (TZ te _).mono ?_; rintro e1 w3 ⟨rfl,hb⟩; have N1 := U.mk (N1.out.up hb); have z0 := N1.out.x0; have z1 := N1.out.x1; clear hb)
  | (go_at_call 59; refine (b7 N1.out.en 4 (by omega) (by omega) (by omega)).mono ?_; rintro e1 w4 ⟨rfl,r4,bJ,bX,bY⟩; rw [HQ.out] at bJ; have N2 := U.mk (N1.out.step bJ bX bY (N1.out.iX H0.out)); have u0 := N2.out.x0; have u1 := N2.out.x1; clear bJ bX bY)
  | (go_at_call 62; refine (acw _ rfl te _).mono ?_; rintro e1 w5 ⟨rfl,hb⟩; have N3 := U.mk (N2.out.up hb); have v0 := N3.out.x0; have v1 := N3.out.x1; clear hb)
  | (go_at_call 73; refine (kO N3.out.en 0 4 (by omega) (by omega)).mono ?_; rw [HPZ.out]; rintro e1 w6 ⟨rfl,rfl⟩))
 rename_i BE
 have BS := U.mk BE
 clear BE
 refine r67 W _ B e b r _ ord _ _ _ _ n1 al off rfl N3.out BU.out.1 jF.out.2.2 jF.out.1 (Bs te) (Mc te) BU.out.2 _ _ ?_
 intro W7 Ya X' X9 X8 X7 X6 X5 X4 X3 X2 X1 X0 XZ XY OH
 refine BS.out _ _ ?_
 have N7 := U.mk OH
 clear OH BS
 go_wp2_with fail
 rename_i BE
 have BS := U.mk BE
 clear BE
 have ir := ab (Below.refl W7.heap.size W7) (.cells #[.slice none 0 0,.int .i64 0,.int .i8 0] 53)
 refine r69 off _ e W7.heap.size _ _ ord HO.out.1 (aQ ir N7.out.en.en) _ _ ?_
 intro W9 XX XW XV XU XT XS XR XQ XP XO XN dK z7
 have Jw := aQ dK (heap_alloc_new W7 (.cells #[.slice none 0 0,.int .i64 0,.int .i8 0] 53))
 have DA : (W7.alloc (.cells #[.slice none 0 0,.int .i64 0,.int .i8 0] 53)).heap.size = W7.heap.size + 1 := by simp
 rw [DA] at z7
 have vB := D2.start N7.out (by have := jF.out.2.1; omega) (aw ir dK) Jw (W7.heap.size + 1) (by omega) z7
 refine BS.out _ _ ?_
 rw [DA]
 have Jg := N7.out.lt
 obtain ⟨g1,fM⟩ : ∃ g1,W7.heap.size = g1 := ⟨_,rfl⟩
 rw [fM] at vB Jg
 simp only [fM]
 have Uq : U (∀ k,Sf W e b r k → k < g1) := ⟨fun k hk => by have := hk.1; omega⟩
 have N9 := U.mk vB
 clear vB ir dK z7 Jw DA BS fM Jg
 go_wp2_with fail
 go_loopg [19] n (fun kq ML wr => ∃ (i p : Nat) (rr : Option Nat),ML = .int .i64 (i : Int) ∧ i ≤ n ∧ p ≤ KS ∧ U (kq = n - i ∧ p ≤ (Ks.take i).sum ∧ D2 W B e b r ord (.iface 153 (.pointer (some ⟨L,0,none⟩))) (.string (Bs (91 :: te))) g1 (g1 + 1) g1 wr r4 (pos + q) (m + q) rr (off + p) p))
 case atStart => exact ⟨0,0,_,rfl,by omega,by omega,⟨rfl,by simp,N9.out⟩⟩
 case round=>
  obtain ⟨i,p,rr,rfl,hi,Gq,HI⟩ := hrel
  have fP := U.mk HI.out.1
  have x0 := HI.out.2.2.st.x0
  have x1 := HI.out.2.2.st.x1
  go_wp2_with fail
  refine (NI _ L (Bs te) _ A cap vs (HK.out.1 _ (fun k hk => (HI.out.2.2.st.kept H0.out (HK.out.2.2.2 k hk)).trans (HK.out.2.2.1 k hk)))).mono ?_
  rw [HN.out]
  rintro e2 w6 ⟨rfl,hb⟩
  have km := HI.out.2.2.up hb
  have M1 := U.mk km
  have m0 := km.st.x0
  have m1 := km.st.x1
  clear hb km
  by_cases hlt : i < n
  · have hd : decide ((i : Int) < (n : Int)) = true := by simpa using hlt
    have iI : IntKind.i64.wrap ((i : Int) + 1) = ((i + 1 : Nat) : Int) := by rw [IntKind.wrap_i64]; omega
    obtain ⟨v,hv⟩ : ∃ v,vs[i]? = some v := ⟨_,List.getElem?_eq_getElem (by rw [HN.out]; exact hlt)⟩
    obtain ⟨dT,u,S,rfl,xF,hS⟩ := HK.out.2.1 i v hv
    have HE := U.mk (And.intro xF (And.intro hS hv))
    have GW : U ((Ks.take (i + 1)).sum = (Ks.take i).sum + Ks.getD i 0) := ⟨by
     have hil : i < Ks.length := by rw [AG.out.2,HN.out]; exact hlt
     rw [zR Ks i hil,List.getD_eq_getElem?_getD,List.getElem?_eq_getElem hil]; rfl⟩
    have vJ : U (p + Ks.getD i 0 ≤ KS) := ⟨by have h1 := GW.out; have h2 := yM Ks (i + 1); have h3 := AG.out.1; have h4 := HI.out.2.1; omega⟩
    clear hv xF hS
    go_wp2_with fail
    refine (Oa _ L (Bs te) A cap vs (HK.out.1 _ (fun k hk => (M1.out.st.kept H0.out (HK.out.2.2.2 k hk)).trans (HK.out.2.2.1 k hk))) te i dT u HE.out.2.2 (by rw [HN.out]; omega)).mono ?_
    rintro e3 w7 ⟨rfl,hb⟩
    have M2 := U.mk (M1.out.up hb)
    clear hb
    go_wp2_with fail
    refine (HE.out.1.en _ (fun k hk => (M2.out.st.kept H0.out (HK.out.2.2.2 k (HE.out.2.1 k hk))).trans (HK.out.2.2.1 k (HE.out.2.1 k hk))) g1 (g1 + 1) g1 _ _ _ ord gj (fun k hk => EN.sf M2.out.gK (Uq.out k (HK.out.2.2.2 k (HE.out.2.1 k hk)))) M2.out.gK HO.out.1 (M2.out.st.tabs H0.out HO.out.2.1 HO.out.2.2) (by have h1 := M2.out.gt; have h2 := H0.out.hw; have h3 := HO.out.2.2; omega) HD.out.1 HD.out.2.1 (by have h1 := vJ.out; have h2 := jF.out.2.1; omega) (by have h1 := vJ.out; have h2 := jF.out.2.1; omega)).mono ?_
    rintro e7 vM ⟨rfl,he⟩
    obtain ⟨Ge,p2,Bv,hst⟩ := M2.out.Ce he
    have M6 := U.mk (And.intro Bv hst)
    clear he hst Bv
    go_wp2_with fail
    go_roundg (n - (i + 1))
    case measure => have := fP.out; omega
    case rel=>
     have h1 := GW.out
     have h2 := vJ.out
     have h3 := M6.out.1
     have h4 := HI.out.2.1
     exact ⟨i + 1,p + p2,_,rfl,hlt,by omega,⟨rfl,by omega,by rw [← Nat.add_assoc]; exact M6.out.2⟩⟩
  · have hd : decide ((i : Int) < (n : Int)) = false := by simpa using hlt
    go_wp2_with fail
    refine (Ea M1.out.gK.bf).mono ?_
    rintro e3 w8 ⟨rfl,hb⟩
    have gU := M1.out.up hb
    have M2 := U.mk gU
    have hdl : decide ((67108864 : Int) < (p : Int)) = false := by simp; omega
    have f1 := gU.gK.c1
    have f2 := gU.st.en.c1
    have f3 := gU.st.en.f 1
    have KU := gU.outer H0.out gU.st.en.fds.1 gU.st.en.fds.2 (.inl rfl)
    have M3 := U.mk KU
    have hwu : IntKind.u32.wrap (p : Int) = (p : Int) := by simp [IntKind.wrap,IntKind.bits,IntKind.signed]; omega
    clear hb gU KU
    go_wp2_with fail
    refine (Ea M3.out.gK.bf).mono ?_
    rintro e4 w9 ⟨rfl,hb⟩
    have M4 := U.mk (M3.out.up hb)
    clear hb
    go_wp2_with fail
    refine (Hz (p : Int) _).mono ?_
    rintro e5 ki ⟨rfl,hb⟩
    have M5 := U.mk (M4.out.up hb)
    clear hb
    go_wp2_with fail
    refine (DH p (by omega) dep HD.out.2.2.1 HD.out.2.2.2 M5.out.st.en HO.out.1 (by omega) (by omega)).mono ?_
    rintro e6 vM ⟨rfl,he⟩
    obtain ⟨Ge,p2,Bv,hst⟩ := M5.out.KF H0.out he
    have M6 := U.mk hst
    clear he hst
    go_wp2_with fail
    refine (Ea M6.out.gK.bf).mono ?_
    rintro e7 gG ⟨rfl,hb⟩
    have To := M6.out.up hb
    have M7 := U.mk To
    have s0 := To.st.x0
    have s1 := To.st.x1
    clear hb To
    go_wp2_with fail
    refine (bC _ rfl _ _).mono ?_
    rintro e8 Kn ⟨rfl,hb⟩
    have M8 := U.mk (M7.out.up hb)
    clear hb
    go_wp2_with fail
    refine (Mc te _).mono ?_
    rintro e9 w14 ⟨rfl,hb⟩
    have M9 := U.mk (M8.out.up hb)
    clear hb
    go_wp2_with fail
    refine (BU.out.2 _).mono ?_
    rintro e10 w15 ⟨rfl,hb⟩
    have PB := U.mk (M9.out.up hb)
    clear hb
    have h9 := dZ (x := pos + q + p2) BU.out.1
    go_wp2_with fail
    refine (b7 PB.out.st.en al BU.out.1 (by omega) (by omega)).mono ?_
    rintro e11 lR ⟨rfl,r16,bJ,bX,bY⟩
    obtain ⟨pa,Ja⟩ : ∃ pa,pd (pos + q + p2) al = pa := ⟨_,rfl⟩
    rw [Ja] at bJ h9
    have DB := PB.out.outer H0.out bJ bX bY
    have PA := U.mk DB
    have c0 := DB.st.en.c0
    clear bJ bX bY DB Ja
    go_wp2_with fail
    refine PA.out.wto.mono ?_
    rintro e12 w17 ⟨rfl,r17,xE,bY,bX⟩
    have hst := PA.out.fin H0.out (by omega) xE bY bX
    have M12 := U.mk hst
    have q3 := hst.en.c3
    have q4 := hst.en.f 3
    clear xE bY bX hst
    have jN : IntKind.i64.wrap (((pos + q + p2 + pa : Nat) : Int) + (p : Int)) = ((pos + q + p2 + pa + p : Nat) : Int) := by rw [IntKind.wrap_i64]; omega
    go_wp2
    go_end0
    exact ⟨rfl,(M12.out.pos H0.out (pos + q + p2 + pa + p) (by omega)).out ⟨q + p2 + pa + p,by omega,by omega,by omega⟩⟩
theorem JQ (v : Value) (w : World) : (Instr.typeAssert (.iface 170 v) 20 170 false).run Tryz.prog w = .ok v w := by kernel_rfl
attribute [local go_sem] JQ
structure Dd (w : World) (L : Nat) (K E : ByteArray) (A1 A2 : Option Nat) (c1 c2 : Nat) (ks vs : List Value) : Prop where
 row : w.heap[L]? = some (.cells #[.string K,.string E,.slice (A1.map fun g => ⟨g,0,none⟩) ks.length c1,.slice (A2.map fun g => ⟨g,0,none⟩) vs.length c2] 172 (0,0))
 k : ∀ j v,ks[j]? = some v → ∃ g,A1 = some g ∧ w.cell? ⟨g,j,none⟩ = some v
 v : ∀ j v,vs[j]? = some v → ∃ g,A2 = some g ∧ w.cell? ⟨g,j,none⟩ = some v
theorem Dd.below {w W : World} {L : Nat} {K E : ByteArray} {A1 A2 : Option Nat} {c1 c2 : Nat} {ks vs : List Value} (h : Dd w L K E A1 A2 c1 c2 ks vs) (hb : Below w.heap.size w W) : Dd W L K E A1 A2 c1 c2 ks vs:=
 ⟨(hb.block L (Array.getElem?_eq_some_iff.1 h.row).1).trans h.row,fun j v hj => by obtain ⟨p,hp,hc⟩ := h.k j v hj; exact ⟨p,hp,ag hb hc⟩,fun j v hj => by obtain ⟨p,hp,hc⟩ := h.v j v hj; exact ⟨p,hp,ag hb hc⟩⟩
theorem Dd.c0 {w : World} {L : Nat} {K E : ByteArray} {A1 A2 : Option Nat} {c1 c2 : Nat} {ks vs : List Value} (h : Dd w L K E A1 A2 c1 c2 ks vs) : w.cell? ⟨L,0,none⟩ = some (.string K) := (cell_of_row w L 0 _ 172 (0,0) h.row).trans rfl
theorem Dd.c1 {w : World} {L : Nat} {K E : ByteArray} {A1 A2 : Option Nat} {c1 c2 : Nat} {ks vs : List Value} (h : Dd w L K E A1 A2 c1 c2 ks vs) : w.cell? ⟨L,1,none⟩ = some (.string E) := (cell_of_row w L 1 _ 172 (0,0) h.row).trans rfl
theorem Dd.c2 {w : World} {L : Nat} {K E : ByteArray} {A1 A2 : Option Nat} {c1 c2 : Nat} {ks vs : List Value} (h : Dd w L K E A1 A2 c1 c2 ks vs) : w.cell? ⟨L,2,none⟩ = some (.slice (A1.map fun g => ⟨g,0,none⟩) ks.length c1) := (cell_of_row w L 2 _ 172 (0,0) h.row).trans rfl
theorem Dd.c3 {w : World} {L : Nat} {K E : ByteArray} {A1 A2 : Option Nat} {c1 c2 : Nat} {ks vs : List Value} (h : Dd w L K E A1 A2 c1 c2 ks vs) : w.cell? ⟨L,3,none⟩ = some (.slice (A2.map fun g => ⟨g,0,none⟩) vs.length c2) := (cell_of_row w L 3 _ 172 (0,0) h.row).trans rfl
def jh (K : ByteArray) : List Value → List Value
 | [] => []
 | k :: r => k :: .string K :: jh K r
theorem EE (K : ByteArray) (k : Value) : ∀ l,jh K (l ++ [k]) = jh K l ++ [k,.string K]
 | [] => rfl
 | x :: l => by simp [jh,EE K k l]
theorem GH (K : ByteArray) (k : Value) : ∀ (l : List Value) (i : Nat),l[i]? = some k → (jh K l)[2 * i]? = some k ∧ (jh K l)[2 * i + 1]? = some (.string K)
 | [],i,h => by simp at h
 | x :: l,0,h => by simp at h; subst h; simp [jh]
 | x :: l,i + 1,h => by
   have := GH K k l i (by simpa using h)
   rw [show 2 * (i + 1) = 2 * i + 1 + 1 by omega]
   simpa [jh] using this
theorem LI (ks : List Value) (i : Nat) (k : Value) (h : ks[i]? = some k) : ks.take (i + 1) = ks.take i ++ [k] := by
 rw [List.take_add_one,h]; rfl
theorem Qx (w : World) (L : Nat) (S K E : ByteArray) (A1 A2 : Option Nat) (c1 c2 : Nat) (ks vs : List Value) (h : Dd w L K E A1 A2 c1 c2 ks vs) (hk : ∀ k ∈ ks,∃ d u,k = .iface d u) (hn : ks.length ≤ 1000) : Calls Tryz.prog 84 #[.agg #[.iface 170 (.pointer (some ⟨L,0,none⟩)),.string S]] w fun e w' => ∃ v,e = .returned v ∧ w'.ownsRow w.heap.size 86 2 v ks.length (jh K ks) ∧ Below w.heap.size w w' := by
 have HD := U.mk h
 have HK := U.mk hk
 obtain ⟨n,fL⟩ : ∃ n,ks.length = n := ⟨_,rfl⟩
 have hb1 := ab (Below.refl w.heap.size w) (.cells #[.iface 170 (.pointer (some ⟨L,0,none⟩)),.string S] 86)
 have HDb := U.mk (fun W (hW : Below w.heap.size w W) => h.below hW)
 have d2 := (h.below hb1).c2
 rw [fL] at d2 hn ⊢
 have HN := U.mk fL
 have vL := U.mk hb1
 clear h hk fL hb1
 go_enter Tryz.func84,Tryz.ntmps84
 go_wp2_with fail
 go_loopg [3,15] n (fun kq v3 MN wr => ∃ (i : Nat) (v : Value),v3 = v ∧ MN = .int .i64 (i : Int) ∧ i ≤ n ∧ U (kq = n - i ∧ wr.ownsRow w.heap.size 86 2 v i (jh K (ks.take i)) ∧ Below w.heap.size w wr))
 case atStart => exact ⟨0,_,rfl,rfl,by omega,⟨rfl,KD _ _ _ _,vL.out⟩⟩
 case round=>
  obtain ⟨i,v,rfl,rfl,hi,HI⟩ := hrel
  have fP := U.mk HI.out.1
  have HO := U.mk HI.out.2.1
  have HB := U.mk HI.out.2.2
  clear HI
  by_cases hlt : i < n
  · have hd : decide ((i : Int) < (n : Int)) = true := by simpa using hlt
    have iI : IntKind.i64.wrap ((i : Int) + 1) = ((i + 1 : Nat) : Int) := by rw [IntKind.wrap_i64]; omega
    obtain ⟨k,Gu⟩ : ∃ k,ks[i]? = some k := ⟨_,List.getElem?_eq_getElem (by rw [HN.out]; exact hlt)⟩
    obtain ⟨dk,uk,rfl⟩ := HK.out k (List.mem_of_getElem? Gu)
    have ZW := HDb.out _ HB.out
    obtain ⟨p,rfl,hc⟩ := ZW.k i _ Gu
    have e0 := ZW.c0
    have g1 : ((0 : Int) ≤ (i : Int)) = True := eq_true (by omega)
    have g2 : ((i : Int) < (n : Int)) = True := eq_true (by omega)
    have g3 : (i < n) = True := eq_true hlt
    have HKV := U.mk Gu
    clear ZW Gu
    go_wp2_with (first | ((with_reducible refine gN (b := .append) (xs := #[.tmp 19,.tmp 26]) rfl ?_); at_builtin; refine kN (w0 := w) w.heap.size rfl (.tmp 19) (.tmp 26) 142 86 (.agg #[.nilIface,.string ⟨#[]⟩]) 2 32 rfl Tryz.underlying142 (by kernel_rfl) rfl (by omega) (by omega) _ i (jh K (ks.take i)) [.iface dk uk,.string K] rfl rfl rfl (by intro u hu; simp at hu; rcases hu with rfl | rfl <;> rfl) HO.out HB.out (br HB.out) (by omega) ?_; intro v1 w1 jn hb1 fM jq; have HO1 := U.mk jn; have cO := U.mk hb1; clear jn hb1 fM jq))
    go_roundg (n - (i + 1))
    case measure => have := fP.out; omega
    case rel => exact ⟨i + 1,_,rfl,rfl,hlt,⟨rfl,by rw [LI ks i _ HKV.out,EE]; exact HO1.out,cO.out⟩⟩
  · have hd : decide ((i : Int) < (n : Int)) = false := by simpa using hlt
    obtain rfl : i = n := by omega
    go_wp2_with fail
    go_ret
    exact ⟨_,rfl,by have := HO.out; rwa [List.take_of_length_le (by rw [HN.out]; exact Nat.le_refl _)] at this,HB.out⟩
attribute [local go_sem] JQ
theorem Vc {w : World} {a : Addr} {v : Value} (h : w.cell? a = some v) : a.block < w.heap.size := by
 by_cases hl : a.block < w.heap.size
 · exact hl
 · have h0 : w.heap[a.block]? = none := Array.getElem?_eq_none (by omega)
   simp [World.cell?,h0] at h
theorem Qy (w : World) (L : Nat) (S K E t2 : ByteArray) (A1 A2 : Option Nat) (c1 c2 : Nat) (ks vs : List Value) (h : Dd w L K E A1 A2 c1 c2 ks vs) (i : Nat) (dk dx : TypeId) (uk ux : Value) (hi : ks[i]? = some (.iface dk uk)) (hv : vs[i]? = some (.iface dx ux)) (hk : ∀ k ∈ ks,∃ d u,k = .iface d u)
 (hne : ∀ (j : Nat) (d : TypeId) (u : Value),j < i → ks[j]? = some (.iface d u) → ∀ w,(binOp BinOp.eql 20 (.iface d u) (.iface dk uk)).run Tryz.prog w = .ok (.bool false) w)
 (heq : ∀ w,(binOp BinOp.eql 20 (.iface dk uk) (.iface dk uk)).run Tryz.prog w = .ok (.bool true) w) (hn : ks.length ≤ 1000) (iJ : vs.length = ks.length) :
 Calls Tryz.prog 85 #[.agg #[.iface 170 (.pointer (some ⟨L,0,none⟩)),.string S],.agg #[.iface dk uk,.string t2]] w fun e w' => e = .returned (.agg #[.iface dx ux,.string E]) ∧ Below w.heap.size w w' := by
 have HLW : U (L < w.heap.size) := ⟨(Array.getElem?_eq_some_iff.1 h.row).1⟩
 have HQW : U (∀ g,A2 = some g → g < w.heap.size) := ⟨fun g hg => by
  obtain ⟨g', hg', Oz⟩ := h.v i _ hv
  rw [hg] at hg'
  obtain rfl := Option.some.inj hg'
  exact Vc Oz⟩
 have HK := U.mk (And.intro hk hne)
 have HE := U.mk heq
 obtain ⟨n,fL⟩ : ∃ n,ks.length = n := ⟨_,rfl⟩
 have hin : i < n := by rw [← fL]; exact (List.getElem?_eq_some_iff.1 hi).1
 have r3 := heap_alloc_new ((w.alloc (.cells #[.iface 170 (.pointer (some ⟨L,0,none⟩)),.string S] 86)).alloc (.cells #[.iface dk uk,.string t2] 86)) (.cells #[.nilIface,.string ⟨#[]⟩] 86)
 have r2 := aQ (ab (Below.refl _ _) (.cells #[.nilIface,.string ⟨#[]⟩] 86)) (heap_alloc_new (w.alloc (.cells #[.iface 170 (.pointer (some ⟨L,0,none⟩)),.string S] 86)) (.cells #[.iface dk uk,.string t2] 86))
 simp only [World.size_alloc] at r3 r2
 have Lh : Below w.heap.size w (((w.alloc (.cells #[.iface 170 (.pointer (some ⟨L,0,none⟩)),.string S] 86)).alloc (.cells #[.iface dk uk,.string t2] 86)).alloc (.cells #[.nilIface,.string ⟨#[]⟩] 86)) := ab (ab (ab (Below.refl w.heap.size w) _) _) _
 have BH := h.below Lh
 have d2 := BH.c2
 rw [fL] at d2 hn iJ
 have HI := U.mk (And.intro hi hv)
 have HN := U.mk fL
 clear h hk hne heq hi hv fL
 go_enter Tryz.func85,Tryz.ntmps85
 go_wp2_with fail
 generalize ((w.alloc (.cells #[.iface 170 (.pointer (some ⟨L,0,none⟩)),.string S] 86)).alloc (.cells #[.iface dk uk,.string t2] 86)).alloc (.cells #[.nilIface,.string ⟨#[]⟩] 86) = W at *
 have d3 := BH.c3
 have d1 := BH.c1
 rw [iJ] at d3
 have la := U.mk BH
 have jo := U.mk Lh
 have R3 := U.mk r3
 have kc : W.cell? ⟨w.heap.size + 1,0,none⟩ = some (.iface dk uk) := (cell_of_row W (w.heap.size + 1) 0 _ 86 (0,0) r2).trans rfl
 have z0 := frozen_of_row W (w.heap.size + 1 + 1) 0 _ 86 r3
 have z1 := frozen_of_row W (w.heap.size + 1 + 1) 1 _ 86 r3
 have HVL := U.mk iJ
 clear r2 r3 BH Lh iJ
 go_loopg [15] n (fun kq MN wr => ∃ (j : Nat),MN = .int .i64 (j : Int) ∧ j ≤ i ∧ U (kq = n - j ∧ ∃ m,wr = W.drewN m))
 case atStart => exact ⟨0,rfl,by omega,⟨rfl,0,rfl⟩⟩
 case round=>
  obtain ⟨j,rfl,hj,HJ⟩ := hrel
  obtain ⟨m,rfl⟩ := HJ.out.2
  have Fa := U.mk HJ.out.1
  clear HJ
  have xB : j < n := by omega
  have hd : decide ((j : Int) < (n : Int)) = true := by simpa using xB
  have iI : IntKind.i64.wrap ((j : Int) + 1) = ((j + 1 : Nat) : Int) := by rw [IntKind.wrap_i64]; omega
  obtain ⟨k,hk⟩ : ∃ k,ks[j]? = some k := ⟨ks[j]'(by rw [HN.out]; exact xB),List.getElem?_eq_getElem (by rw [HN.out]; exact xB)⟩
  obtain ⟨O3,MS,rfl⟩ := HK.out.1 k (List.mem_of_getElem? hk)
  obtain ⟨p,rfl,hc⟩ := la.out.k j _ hk
  obtain ⟨b,hb,ZJ⟩ : ∃ b : Bool,(b = true → j = i) ∧ ∀ w,(binOp BinOp.eql 20 (.iface O3 MS) (.iface dk uk)).run Tryz.prog w = .ok (.bool b) w := by
   by_cases fF : j = i
   · subst fF
     rw [HI.out.1] at hk
     obtain ⟨rfl,rfl⟩ : dk = O3 ∧ uk = MS := by simpa using hk
     exact ⟨true,fun _ => rfl,HE.out⟩
   · exact ⟨false,by simp,HK.out.2 j O3 MS (by omega) hk⟩
  have xE : b = false → j < i := by
   intro kR
   by_cases fF : j = i
   · subst fF
     rw [HI.out.1] at hk
     obtain ⟨rfl,rfl⟩ : dk = O3 ∧ uk = MS := by simpa using hk
     have h1 := HE.out W
     rw [ZJ W,kR] at h1
     simp at h1
   · omega
  have g1 : ((0 : Int) ≤ (j : Int)) = True := eq_true (by omega)
  have g2 : ((j : Int) < (n : Int)) = True := eq_true (by omega)
  have g3 : (j < n) = True := eq_true xB
  have HB := U.mk (And.intro hb xE)
  clear hk hb xE
  go_wp2_with fail
  go_quiet (fail)
  cases b
  · have fF : j < i := HB.out.2 rfl
    clear HB
    go_wp2_with fail
    go_roundg (n - (j + 1))
    case measure => have := Fa.out; omega
    case rel => exact ⟨j + 1,by simp,by omega,⟨rfl,_,rfl⟩⟩
  · obtain rfl := HB.out.1 rfl
    obtain ⟨q,rfl,hx⟩ := la.out.v j _ HI.out.2
    clear HB
    go_wp2_with fail
    have hqw : q < w.heap.size := HQW.out q rfl
    have ZQ := HLW.out
    have b0 : W.cell? ⟨w.heap.size + 1 + 1,0,none⟩ = some .nilIface := (cell_of_row W (w.heap.size + 1 + 1) 0 _ 86 (0,0) R3.out).trans rfl
    have b1 : W.cell? ⟨w.heap.size + 1 + 1,1,none⟩ = some (.string ⟨#[]⟩) := (cell_of_row W (w.heap.size + 1 + 1) 1 _ 86 (0,0) R3.out).trans rfl
    have il : ∀ nn,(W.drewN nn).frozen? ⟨w.heap.size + 1 + 1,0,none⟩ = false := fun _ => z0
    have vu : ∀ nn,(W.drewN nn).frozen? ⟨w.heap.size + 1 + 1,1,none⟩ = false := fun _ => z1
    go_region_held3 (fun w' => w'.cell? ⟨L,3,none⟩ = some (.slice (some ⟨q,0,none⟩) n c2) ∧ w'.cell? ⟨q,j,none⟩ = some (.iface dx ux) ∧ w'.cell? ⟨L,1,none⟩ = some (.string E)) (first | exact ⟨d3,hx,d1⟩ | (refine ⟨?_,?_,?_⟩ <;> go_keep) | (refine ⟨?_,?_,?_⟩ <;> (rw [World.cell?_setCell_other _ _ _ _ (by intro e; injection e with e; omega),World.cell?_setCell_other _ _ _ _ (by intro e; injection e with e; omega)]; first | exact d3 | exact hx | exact d1))) (fail)
    all_goals
     go_wp2
     refine bodyPost_ret (results_cell_row rfl _ _ (w.heap.size + 1 + 1) 86 _ (0,0) _ rfl (heap_setCell_same _ _ 1 _ _ (.string E) (heap_setCell_same _ _ 0 _ _ (.iface dx ux) R3.out)) Tryz.underlying86 rfl Hi) rfl ?_
     exact ⟨rfl,((ai jo.out _).setCell (by show w.heap.size ≤ w.heap.size + 1 + 1; omega) _).setCell (by show w.heap.size ≤ w.heap.size + 1 + 1; omega) _⟩
end Go.Proofs.YtkdebhgccpfkiaaGreatDoor.au
namespace Go.Proofs.YtkdebhgccpfkiaaGreatDoor.au
open Go.RowKit Go.Proofs.aa.az Go.Proofs.aa.aM Go.Proofs.aa.aU
attribute [local go_sem] ba bh
set_option linter.unusedVariables false
set_option linter.unusedSimpArgs false
attribute [local go_sem] jB kK iy fW fV fw fU fT
open Go.Proofs.YtkdebhgccpfkiaaGreatDoor.fD Go.Proofs.YtkdebhgccpfkiaaGreatDoor.fO Go.Proofs.YtkdebhgccpfkiaaGreatDoor.gw
structure D4 (w : World) (B e b : Nat) (r0 : Option Nat) (ord V S : Value) (B1 e1 b1 : Nat) (W : World) (r : Option Nat) (pos m : Nat) (r1 : Option Nat) (eO m1 : Nat) (W9 : World) (kb : Nat) (o : Obj) : Prop where
 d : D2 w B e b r0 ord V S B1 e1 b1 W r pos m r1 eO m1
 be : Below B1 W9 W
 kp : W.heap[kb]? = some o
 nx : ¬ EX e1 b1 r1 kb
theorem D4.up {w W W' : World} {B e b : Nat} {r0 r r1 : Option Nat} {ord V S : Value} {B1 e1 b1 pos m eO m1 kb : Nat} {W9 : World} {o : Obj} (h : D4 w B e b r0 ord V S B1 e1 b1 W r pos m r1 eO m1 W9 kb o) (hb : Below W.heap.size W W') : D4 w B e b r0 ord V S B1 e1 b1 W' r pos m r1 eO m1 W9 kb o:=
 ⟨h.d.up hb,h.be.trans (aC hb h.d.gK.hw),aQ hb h.kp,h.nx⟩
theorem D4.inner {w W W' : World} {B e b : Nat} {r0 r r1 Gf : Option Nat} {ord V S : Value} {B1 e1 b1 pos m eO m1 D6 NH kb : Nat} {W9 : World} {o : Obj} (h : D4 w B e b r0 ord V S B1 e1 b1 W r pos m r1 eO m1 W9 kb o) (he : EN W' B1 e1 b1 Gf D6 NH ord) (hf : Fr W W' (EX e1 b1 r1)) (hr : Rn W r1 Gf) : D4 w B e b r0 ord V S B1 e1 b1 W' r pos m Gf D6 NH W9 kb o := by
 refine ⟨h.d.inner he hf hr,h.be.trans (hf.below h.d.gK.hw (fun k hk => EX.ge h.d.gK k hk)),hf.heap h.kp h.nx,?_⟩
 intro hx
 have hlt := (Array.getElem?_eq_some_iff.1 h.kp).1
 rcases hx with hx | hx | hx
 · exact h.nx (.inl hx)
 · exact h.nx (.inr (.inl hx))
 · rcases hr with rfl | ⟨g,rfl,hg⟩
   · exact h.nx (.inr (.inr hx))
   · obtain rfl := Option.some.inj hx
     omega
theorem D4.Ce {w W W' : World} {B e b : Nat} {r0 r r1 : Option Nat} {ord V S : Value} {B1 e1 b1 pos m eO m1 K kb : Nat} {W9 : World} {o : Obj} (h : D4 w B e b r0 ord V S B1 e1 b1 W r pos m r1 eO m1 W9 kb o) (he : ER W B1 e1 b1 r1 eO m1 ord K W') : ∃ r' p,p ≤ K ∧ D4 w B e b r0 ord V S B1 e1 b1 W' r pos m r' (eO + p) (m1 + p) W9 kb o := by
 obtain ⟨r', p,h1,h2,h3,h4⟩ := he
 exact ⟨r', p,h4,h.inner h1 h2 h3⟩
theorem NM (c : UInt8) (r : List UInt8) (w : World) : Calls Tryz.prog 83 #[.string (Bs (123 :: c :: r))] w fun e w' => e = .returned (.string (Bs [c])) ∧ Below w.heap.size w w' := by
 have h : du.f (Bs (123 :: c :: r)) = some (Bs [c]) := by
  unfold du.f
  have hs : (Bs (123 :: c :: r)).size = r.length + 2 := by simp [Bs,ByteArray.size]
  have h2 : (Bs (123 :: c :: r)).extract 1 2 = Bs [c] := by
   apply ByteArray.ext
   simp [Bs,ByteArray.data_extract]
  rw [h2,hs,if_pos (by omega),if_pos (by push_cast; omega)]
 refine (du.calls _ _ w h).mono ?_
 rintro e w' ⟨rfl,nd,rfl⟩
 exact ⟨rfl,ai (Below.refl _ _) nd⟩
theorem QR (c : UInt8) (hc : fJ c = true) (w : World) : Calls Tryz.prog 38 #[.string (Bs [c])] w fun e w' => e = .returned (.bool true) ∧ Below w.heap.size w w' := by
 refine (dm.calls 9 _ true w (NL c hc)).mono ?_
 rintro e w' ⟨rfl,nd,rfl⟩
 exact ⟨rfl,ai (Below.refl _ _) nd⟩
theorem Qo {w : World} {base n : Nat} {v : Value} {K : ByteArray} {ks : List Value} (h : w.ownsRow base 86 2 v n (jh K ks)) : ∃ A c,v = .slice A n c ∧ ∀ j k,ks[j]? = some k → ∃ g,A = some ⟨g,0,none⟩ ∧ g < w.heap.size ∧ w.cell? ⟨g,2 * j,none⟩ = some k ∧ w.cell? ⟨g,2 * j + 1,none⟩ = some (.string K) := by
 obtain ⟨A,c,rfl⟩ := dX h
 refine ⟨A,c,rfl,fun j k hj => ?_⟩
 obtain ⟨f1,f2⟩ := GH K k ks j hj
 have hl : (jh K ks).length = n * 2 := h.1
 have Gx := (List.getElem?_eq_some_iff.1 f1).1
 rcases h.2 with ⟨e,h0⟩ | ⟨g,cap,cur,e,hg,r⟩
 · omega
 · injection e with e1 _ _
   have hc := h.cells (g := g) (by rw [e1]; rfl)
   have ha : ∀ i,(⟨g,0,none⟩ : Addr).add i = ⟨g,i,none⟩ := fun i => by unfold Addr.add; split <;> simp_all
   have k1 := hc _ _ f1
   have k2 := hc _ _ f2
   rw [ha] at k1 k2
   exact ⟨g,e1,World.block_lt_of_cell? w _ k1,k1,k2⟩
theorem U4 (Sx : Nat → Prop) (w0 : World) (L : Nat) (A1 A2 : Option Nat) (c1 c2 : Nat) (ks vs : List Value) (c : UInt8) (hc : fJ c = true) (te : List UInt8) (Ks : List Nat) (d : Nat) (iJ : vs.length = ks.length) (cf : Ks.length = ks.length) (hn : ks.length ≤ 1000) (BF : Ks.sum ≤ 67000000)
 (hL : ∀ W : World,(∀ k,Sx k → W.heap[k]? = w0.heap[k]?) → Dd W L (Bs [c]) (Bs te) A1 A2 c1 c2 ks vs)
 (dD : ∀ (j : Nat) k v,ks[j]? = some k → vs[j]? = some v → ∃ dk uk dx ux S1 S2 K1 K2,k = .iface dk uk ∧ v = .iface dx ux ∧ EV w0 S1 k [c] d K1 ∧ EV w0 S2 v te d K2 ∧ K1 + K2 + 8 ≤ Ks.getD j 0 ∧ (∀ k,S1 k → Sx k) ∧ ∀ k,S2 k → Sx k)
 (heq : ∀ (j : Nat) d u,ks[j]? = some (.iface d u) → ∀ w,(binOp BinOp.eql 20 (.iface d u) (.iface d u)).run Tryz.prog w = .ok (.bool true) w)
 (hne : ∀ (i j : Nat) d1 u1 d2 u2,j < i → ks[j]? = some (.iface d1 u1) → ks[i]? = some (.iface d2 u2) → ∀ w,(binOp BinOp.eql 20 (.iface d1 u1) (.iface d2 u2)).run Tryz.prog w = .ok (.bool false) w) :
 G1 w0 Sx (.iface 170 (.pointer (some ⟨L,0,none⟩))) (123 :: c :: te) (d + 2) (Ks.sum + 60) := by
 intro W hW B e b r pos m ord dep BD hE ho hT hB cm dt hp hm
 have kQ : decide (64 < dep) = false := by simp; omega
 have H0 := U.mk hE
 have N0 := U.mk (St.start (.iface 170 (.pointer (some ⟨L,0,none⟩))) (.string (Bs (123 :: c :: te))) hE)
 have y0 := N0.out.x0
 have y1 := N0.out.x1
 have xC : ∀ k ∈ ks,∃ d u,k = .iface d u := fun k hk => by
  obtain ⟨j,hj,rfl⟩ := List.mem_iff_getElem.1 hk
  obtain ⟨dk,uk,_,_,_,_,_,_,h1,_⟩ := dD j ks[j] (vs[j]'(by omega)) (List.getElem?_eq_getElem hj) (List.getElem?_eq_getElem (by omega))
  exact ⟨dk,uk,h1⟩
 have HK := U.mk (And.intro hL (And.intro dD (And.intro hW BD)))
 have Uc := U.mk (And.intro heq (And.intro hne xC))
 have HO := U.mk (And.intro ho (And.intro hT hB))
 have HC := U.mk hc
 have h7 := dZ (x := pos) (a := 4) (by omega)
 obtain ⟨q,hq⟩ : ∃ q,pd pos 4 = q := ⟨_,rfl⟩
 rw [hq] at h7
 have HQ := U.mk hq
 have Y8 := dZ (x := pos + q + 0) (a := 4) (by omega)
 obtain ⟨pz,I7⟩ : ∃ pz,pd (pos + q + 0) 4 = pz := ⟨_,rfl⟩
 rw [I7] at Y8
 have HPZ := U.mk I7
 obtain ⟨n1,iK⟩ : ∃ n1,pz + 4 = n1 := ⟨_,rfl⟩
 have hwz : IntKind.i64.wrap ((pz : Int) + 4) = (n1 : Int) := by rw [IntKind.wrap_i64]; omega
 obtain ⟨off,hoff⟩ : ∃ off,off = pos + q + n1 + pd (pos + q + n1) 8 := ⟨_,rfl⟩
 have Zk := dZ (x := pos + q + n1) (a := 8) (by omega)
 have jF : U (off = pos + q + n1 + pd (pos + q + n1) 8 ∧ off ≤ pos + 40 ∧ n1 ≤ 20) := ⟨hoff,by omega,by omega⟩
 obtain ⟨KS,BG⟩ : ∃ KS,Ks.sum = KS := ⟨_,rfl⟩
 rw [BG] at hp hm BF ⊢
 have AG := U.mk (And.intro BG cf)
 obtain ⟨n,fL⟩ : ∃ n,ks.length = n := ⟨_,rfl⟩
 rw [fL] at hn
 have HN := U.mk (And.intro fL iJ)
 obtain ⟨DJ,acW⟩ : ∃ DJ,dep + 2 = DJ := ⟨_,rfl⟩
 have Y' : IntKind.i64.wrap (dep + 2) = DJ := by rw [IntKind.wrap_i64]; omega
 have HD : U (0 ≤ DJ ∧ DJ + (d : Int) ≤ 64 ∧ 0 ≤ dep ∧ dep ≤ 64) := ⟨by omega,by omega,cm,by omega⟩
 clear hE cm dt hq ho hT hB hL dD hW BD acW cf BG fL I7 iK hoff Zk heq hne xC hc iJ
 go_enter Tryz.func47,Tryz.ntmps47
 go_wp2_with (first
  | (have h5 := N3; go_at_call 61; refine (bC _ rfl _ _).mono ?_; rintro e1 w51 ⟨rfl,hb⟩; have N4 := U.mk (h5.out.up hb); clear hb h5)
  | (go_at_call 83; refine (NM c te _).mono ?_; rintro e1 w52 ⟨rfl,hb⟩; have N5 := U.mk (N4.out.up hb); clear hb)
  | (go_at_call 38; refine (QR c HC.out _).mono ?_; rintro e1 w53 ⟨rfl,hb⟩; have N6 := U.mk (N5.out.up hb); have t0 := N6.out.x0; have t1 := N6.out.x1; clear hb)
  | (go_at_call 84; refine (Qx _ L _ _ _ A1 A2 c1 c2 ks vs (HK.out.1 _ (fun k hk => (N6.out.kept H0.out (HK.out.2.2.2 k hk)).trans (HK.out.2.2.1 k hk))) Uc.out.2.2 (by rw [HN.out.1]; omega)).mono ?_; rw [HN.out.1]; rintro e1 w54 ⟨v,rfl,hown,hb⟩; obtain ⟨AK,cK,rfl,Dg⟩ := Qo hown; have N8 := U.mk (N6.out.up hb); have Uh := U.mk Dg; have s0 := N8.out.x0; have s1 := N8.out.x1; clear hb hown Dg)
  | (go_at_call 61; refine (bC _ rfl _ _).mono ?_; rintro e1 w2 ⟨rfl,hb⟩; have N1 := U.mk (N0.out.up hb); have z0 := N1.out.x0; have z1 := N1.out.x1; clear hb)
  | (go_at_call 60; refine (Pr _ _).mono ?_; rintro e1 w3 ⟨rfl,hb⟩; have N1 := U.mk (N1.out.up hb); have z0 := N1.out.x0; have z1 := N1.out.x1; clear hb)
  | (go_at_call 59; refine (b7 N1.out.en 4 (by omega) (by omega) (by omega)).mono ?_; rintro e1 w4 ⟨rfl,r4,bJ,bX,bY⟩; rw [HQ.out] at bJ; have N2 := U.mk (N1.out.step bJ bX bY (N1.out.iX H0.out)); have u0 := N2.out.x0; have u1 := N2.out.x1; clear bJ bX bY)
  | (go_at_call 62; refine (Xp _ rfl _ _).mono ?_; rintro e1 w5 ⟨rfl,hb⟩; have N3 := U.mk (N2.out.up hb); have v0 := N3.out.x0; have v1 := N3.out.x1; clear hb)
  | (go_at_call 73; refine (kO N8.out.en 0 4 (by omega) (by omega)).mono ?_; rw [HPZ.out]; rintro e1 w6 ⟨rfl,rfl⟩))
 rename_i BE
 have BS := U.mk BE
 clear BE
 refine aex W _ B e b r _ ord _ _ _ _ n1 off rfl N8.out jF.out.2.2 jF.out.1 _ _ ?_
 intro W7 XM XL XK XJ XI XH XG XF XE XD jP OH
 refine BS.out _ _ ?_
 have N7 := U.mk OH
 have zQ := U.mk jP
 clear OH BS jP
 go_wp2_with fail
 rename_i BE
 have BS := U.mk BE
 clear BE
 have ir := ab (Below.refl W7.heap.size W7) (.cells #[.slice none 0 0,.int .i64 0,.int .i8 0] 53)
 refine aew off _ e W7.heap.size _ _ ord HO.out.1 (aQ ir N7.out.en.en) _ _ ?_
 intro W9 XC XB XA Xz Xy Xx Xw Xv Xu Xt Xs dK z7
 have Jw := aQ dK (heap_alloc_new W7 (.cells #[.slice none 0 0,.int .i64 0,.int .i8 0] 53))
 have DA : (W7.alloc (.cells #[.slice none 0 0,.int .i64 0,.int .i8 0] 53)).heap.size = W7.heap.size + 1 := by simp
 rw [DA] at z7
 have vB := D2.start N7.out (by have := jF.out.2.1; omega) (aw ir dK) Jw (W7.heap.size + 1) (by omega) z7
 have Q4 : ∀ j k,ks[j]? = some k → ∃ g,AK = some ⟨g,0,none⟩ ∧ g < W7.heap.size ∧ W9.cell? ⟨g,2 * j,none⟩ = some k ∧ W9.cell? ⟨g,2 * j + 1,none⟩ = some (.string (Bs [c])) := fun j k hj => by
  obtain ⟨g,h1,h2,h3,h4⟩ := Uh.out j k hj
  exact ⟨g,h1,Nat.lt_of_lt_of_le h2 zQ.out.size,ag (aw zQ.out (aw ir dK)) h3,ag (aw zQ.out (aw ir dK)) h4⟩
 refine BS.out _ _ ?_
 rw [DA]
 have Jg := N7.out.lt
 obtain ⟨g1,fM⟩ : ∃ g1,W7.heap.size = g1 := ⟨_,rfl⟩
 rw [fM] at vB Jg Q4
 simp only [fM]
 have Uq : U (∀ k,Sf W e b r k → k < g1) := ⟨fun k hk => by have := hk.1; omega⟩
 have N9 := U.mk vB
 have afX := U.mk Q4
 clear vB ir dK z7 Jw DA BS fM Jg Q4 Uh
 go_wp2_with fail
 go_loopg [513] n (fun kq ael wr => ∃ (i p : Nat) (rr : Option Nat),ael = .int .i64 (i : Int) ∧ i ≤ n ∧ p ≤ KS ∧ U (kq = n - i ∧ p ≤ (Ks.take i).sum ∧ D2 W B e b r ord (.iface 170 (.pointer (some ⟨L,0,none⟩))) (.string (Bs (123 :: c :: te))) g1 (g1 + 1) g1 wr r4 (pos + q) (m + q) rr (off + p) p ∧ Below g1 W9 wr))
 case atStart => exact ⟨0,0,_,rfl,by omega,by omega,⟨rfl,by simp,N9.out,Below.refl _ _⟩⟩
 case round=>
  obtain ⟨i,p,rr,rfl,hi,Gq,HI⟩ := hrel
  have fP := U.mk HI.out.1
  have x0 := HI.out.2.2.1.st.x0
  have x1 := HI.out.2.2.1.st.x1
  by_cases hlt : i < n
  · have hd : decide ((i : Int) < (n : Int)) = true := by simpa using hlt
    have iI : IntKind.i64.wrap ((i : Int) + 1) = ((i + 1 : Nat) : Int) := by rw [IntKind.wrap_i64]; omega
    obtain ⟨k,hk⟩ : ∃ k,ks[i]? = some k := ⟨_,List.getElem?_eq_getElem (by rw [HN.out.1]; exact hlt)⟩
    obtain ⟨v,hv⟩ : ∃ v,vs[i]? = some v := ⟨_,List.getElem?_eq_getElem (by rw [HN.out.2,HN.out.1]; exact hlt)⟩
    obtain ⟨dk,uk,dx,ux,S1,S2,K1,K2,rfl,rfl,hE1,Tx,ZV,OC,hS2⟩ := HK.out.2.1 i k v hk hv
    have HE := U.mk (And.intro hE1 (And.intro Tx (And.intro OC (And.intro hS2 (And.intro hk hv)))))
    have GW : U ((Ks.take (i + 1)).sum = (Ks.take i).sum + Ks.getD i 0 ∧ K1 + K2 + 8 ≤ Ks.getD i 0) := ⟨by
     have hil : i < Ks.length := by rw [AG.out.2,HN.out.1]; exact hlt
     rw [zR Ks i hil,List.getD_eq_getElem?_getD,List.getElem?_eq_getElem hil]; rfl,ZV⟩
    have vJ : U (p + K1 + K2 + 8 ≤ KS) := ⟨by have h1 := GW.out; have h2 := yM Ks (i + 1); have h3 := AG.out.1; have h4 := HI.out.2.1; omega⟩
    obtain ⟨gk,rfl,K9,Ez,Dj⟩ := afX.out i _ hk
    have e1 : wr.cell? ⟨gk,i * 2,none⟩ = some (.iface dk uk) := by rw [Nat.mul_comm i 2]; exact (HI.out.2.2.2.cell (p := ⟨gk,2 * i,none⟩) K9).trans Ez
    have e2 : wr.cell? ⟨gk,i * 2 + 1,none⟩ = some (.string (Bs [c])) := by rw [Nat.mul_comm i 2]; exact (HI.out.2.2.2.cell (p := ⟨gk,2 * i + 1,none⟩) K9).trans Dj
    have q1 : ((0 : Int) ≤ (i : Int)) = True := eq_true (by omega)
    have q2 : ((i : Int) < (n : Int)) = True := eq_true (by omega)
    have q3 : (i < n) = True := eq_true hlt
    clear hk hv hE1 Tx OC hS2 ZV K9 Ez Dj
    go_wp2_with fail
    have kR := ab (Below.refl wr.heap.size wr) (.cells #[.iface dk uk,.string (Bs [c])] 86)
    have M0 : U (D4 W B e b r ord (.iface 170 (.pointer (some ⟨L,0,none⟩))) (.string (Bs (123 :: c :: te))) g1 (g1 + 1) g1 (wr.alloc (.cells #[.iface dk uk,.string (Bs [c])] 86)) r4 (pos + q) (m + q) rr (off + p) p W9 wr.heap.size (.cells #[.iface dk uk,.string (Bs [c])] 86 (0,0))) := ⟨⟨HI.out.2.2.1.up kR,HI.out.2.2.2.trans (aC kR HI.out.2.2.1.gK.hw),heap_alloc_new _ _,fun hx => by have := HI.out.2.2.1.gK.lt _ hx; omega⟩⟩
    clear kR e1 e2
    refine (b7 M0.out.d.gK 8 (by omega) (by have h1 := vJ.out; have h2 := jF.out.2.1; omega) (by have h1 := vJ.out; have h2 := jF.out.2.1; omega)).mono ?_
    rintro ea wa ⟨rfl,ra,bJ,bX,bY⟩
    have Ja := dZ (x := off + p) (a := 8) (by omega)
    obtain ⟨pa,Zi⟩ : ∃ pa,pd (off + p) 8 = pa := ⟨_,rfl⟩
    rw [Zi] at bJ Ja
    have M1 := U.mk (M0.out.inner bJ bX bY)
    have k0 : wa.cell? ⟨wr.heap.size,0,none⟩ = some (.iface dk uk) := (cell_of_row wa wr.heap.size 0 _ 86 (0,0) M1.out.kp).trans rfl
    have k1 : wa.cell? ⟨wr.heap.size,1,none⟩ = some (.string (Bs [c])) := (cell_of_row wa wr.heap.size 1 _ 86 (0,0) M1.out.kp).trans rfl
    clear bJ bX bY Zi
    go_wp2_with fail
    refine (HE.out.1.en _ (fun k hk => (M1.out.d.st.kept H0.out (HK.out.2.2.2 k (HE.out.2.2.1 k hk))).trans (HK.out.2.2.1 k (HE.out.2.2.1 k hk))) g1 (g1 + 1) g1 _ _ _ ord DJ (fun k hk => EN.sf M1.out.d.gK (Uq.out k (HK.out.2.2.2 k (HE.out.2.2.1 k hk)))) M1.out.d.gK HO.out.1 (M1.out.d.st.tabs H0.out HO.out.2.1 HO.out.2.2) (by have h1 := M1.out.d.gt; have h2 := H0.out.hw; have h3 := HO.out.2.2; omega) HD.out.1 HD.out.2.1 (by have h1 := vJ.out; have h2 := jF.out.2.1; omega) (by have h1 := vJ.out; have h2 := jF.out.2.1; omega)).mono ?_
    rintro eb wb ⟨rfl,he⟩
    obtain ⟨rb,p2,Jb,hst⟩ := M1.out.Ce he
    have M2 := U.mk hst
    have j0 : wb.cell? ⟨wr.heap.size,0,none⟩ = some (.iface dk uk) := (cell_of_row wb wr.heap.size 0 _ 86 (0,0) hst.kp).trans rfl
    have j1 : wb.cell? ⟨wr.heap.size,1,none⟩ = some (.string (Bs [c])) := (cell_of_row wb wr.heap.size 1 _ 86 (0,0) hst.kp).trans rfl
    have j2 := hst.d.st.x0
    have j3 := hst.d.st.x1
    clear he hst k0 k1
    go_wp2_with fail
    refine (Qy _ L _ _ _ _ A1 A2 c1 c2 ks vs (HK.out.1 _ (fun k hk => (M2.out.d.st.kept H0.out (HK.out.2.2.2 k hk)).trans (HK.out.2.2.1 k hk))) i dk dx uk ux HE.out.2.2.2.2.1 HE.out.2.2.2.2.2 Uc.out.2.2 (fun j d1 u1 hj hk1 => Uc.out.2.1 i j d1 u1 dk uk hj hk1 HE.out.2.2.2.2.1) (Uc.out.1 i dk uk HE.out.2.2.2.2.1) (by rw [HN.out.1]; omega) HN.out.2).mono ?_
    rintro ec wc ⟨rfl,hb⟩
    have M3 := U.mk (M2.out.up hb)
    clear hb
    go_wp2_with fail
    refine (HE.out.2.1.en _ (fun k hk => (M3.out.d.st.kept H0.out (HK.out.2.2.2 k (HE.out.2.2.2.1 k hk))).trans (HK.out.2.2.1 k (HE.out.2.2.2.1 k hk))) g1 (g1 + 1) g1 _ _ _ ord DJ (fun k hk => EN.sf M3.out.d.gK (Uq.out k (HK.out.2.2.2 k (HE.out.2.2.2.1 k hk)))) M3.out.d.gK HO.out.1 (M3.out.d.st.tabs H0.out HO.out.2.1 HO.out.2.2) (by have h1 := M3.out.d.gt; have h2 := H0.out.hw; have h3 := HO.out.2.2; omega) HD.out.1 HD.out.2.1 (by have h1 := vJ.out; have h2 := jF.out.2.1; omega) (by have h1 := vJ.out; have h2 := jF.out.2.1; omega)).mono ?_
    rintro ed wd ⟨rfl,he⟩
    obtain ⟨rd,p3,Tm,hst⟩ := M3.out.Ce he
    have M4 := U.mk hst
    clear he hst
    go_wp2_with fail
    go_roundg (n - (i + 1))
    case measure => have := fP.out; omega
    case rel=>
     have h1 := GW.out
     have h2 := vJ.out
     have h4 := HI.out.2.1
     exact ⟨i + 1,p + pa + p2 + p3,_,rfl,hlt,by omega,⟨rfl,by omega,by have h := M4.out.d; rwa [show off + p + pa + p2 + p3 = off + (p + pa + p2 + p3) by omega] at h,M4.out.be⟩⟩
  · have hd : decide ((i : Int) < (n : Int)) = false := by simpa using hlt
    have gU := HI.out.2.2.1
    have f1 := gU.gK.c1
    have f2 := gU.st.en.c1
    have f3 := gU.st.en.f 1
    have KU := gU.outer H0.out gU.st.en.fds.1 gU.st.en.fds.2 (.inl rfl)
    have M3 := U.mk KU
    have hwu : IntKind.u32.wrap (p : Int) = (p : Int) := by simp [IntKind.wrap,IntKind.bits,IntKind.signed]; omega
    clear gU KU
    go_wp2_with fail
    refine (Ea M3.out.gK.bf).mono ?_
    rintro e4 w9 ⟨rfl,hb⟩
    have M4 := U.mk (M3.out.up hb)
    clear hb
    go_wp2_with fail
    refine (Hz (p : Int) _).mono ?_
    rintro e5 ki ⟨rfl,hb⟩
    have M5 := U.mk (M4.out.up hb)
    clear hb
    go_wp2_with fail
    refine (DH p (by omega) dep HD.out.2.2.1 HD.out.2.2.2 M5.out.st.en HO.out.1 (by omega) (by omega)).mono ?_
    rintro e6 vM ⟨rfl,he⟩
    obtain ⟨Ge,p2,Bv,hst⟩ := M5.out.KF H0.out he
    have M6 := U.mk hst
    clear he hst
    go_wp2_with fail
    refine (Ea M6.out.gK.bf).mono ?_
    rintro e7 gG ⟨rfl,hb⟩
    have PB := U.mk (M6.out.up hb)
    clear hb
    have h9 := dZ (x := pos + q + p2) (a := 8) (by omega)
    go_wp2_with fail
    refine (b7 PB.out.st.en 8 (by omega) (by omega) (by omega)).mono ?_
    rintro e11 lR ⟨rfl,r16,bJ,bX,bY⟩
    obtain ⟨pa,Ja⟩ : ∃ pa,pd (pos + q + p2) 8 = pa := ⟨_,rfl⟩
    rw [Ja] at bJ h9
    have DB := PB.out.outer H0.out bJ bX bY
    have PA := U.mk DB
    have c0 := DB.st.en.c0
    clear bJ bX bY DB Ja
    go_wp2_with fail
    refine PA.out.wto.mono ?_
    rintro e12 w17 ⟨rfl,r17,xE,bY,bX⟩
    have hst := PA.out.fin H0.out (by omega) xE bY bX
    have M12 := U.mk hst
    have q3 := hst.en.c3
    have q4 := hst.en.f 3
    clear xE bY bX hst
    have jN : IntKind.i64.wrap (((pos + q + p2 + pa : Nat) : Int) + (p : Int)) = ((pos + q + p2 + pa + p : Nat) : Int) := by rw [IntKind.wrap_i64]; omega
    go_wp2
    go_end0
    exact ⟨rfl,(M12.out.pos H0.out (pos + q + p2 + pa + p) (by omega)).out ⟨q + p2 + pa + p,by omega,by omega,by omega⟩⟩
def DV (x : cY) (t : List UInt8) (d K : Nat) : Prop := ∀ A c3 w,Kd.C kj w A x.f3.length x.f3 → Calls Tryz.prog 49 #[.agg #[.int .u8 x.f0,.int .u64 x.f1,.string x.f2,.slice A x.f3.length c3]] w fun e w' => ∃ dT u S,e = .returned (.iface dT u) ∧ EV w' S (.iface dT u) t d K ∧ (∀ k,S k → w.heap.size ≤ k) ∧ Below w.heap.size w w' ∧ ∀ c,fJ c = true → t = [c] → BV c (.iface dT u)
structure PC (x : cY) (c : UInt8) : Prop where
 n : 0 ≤ x.f1 ∧ x.f1 < 18446744073709551616
 sz : x.f2.size ≤ 65536
 s : c = 115 ∨ c = 111 → Lib.validD x.f2.data.toList = true ∧ Lib.indexByte x.f2.data.toList 0 = -1
 p : c = 111 → ∃ kp,av.f kp x.f2 = some true
theorem KO (n : Int) : -2147483648 ≤ wrap32 n ∧ wrap32 n < 2147483648 := by unfold wrap32; omega
theorem KM (n : Int) : -9223372036854775808 ≤ wrap64 n ∧ wrap64 n < 9223372036854775808 := by unfold wrap64; omega
theorem aaz (n : Int) (s : ByteArray) (A : Option Addr) (m c3 : Nat) (w : World) : Calls Tryz.prog 49 #[.agg #[.int .u8 121,.int .u64 n,.string s,.slice A m c3]] w fun e w' => e = .returned (.iface 5 (.int .u8 (IntKind.u8.wrap n))) ∧ Below w.heap.size w w' := by
 go_enter Tryz.func49,Tryz.ntmps49
 go_wp2
 go_ret
 exact ⟨rfl,ab (Below.refl _ _) _⟩
theorem ac7 (n : Int) (s : ByteArray) (A : Option Addr) (m c3 : Nat) (w : World) : Calls Tryz.prog 49 #[.agg #[.int .u8 98,.int .u64 n,.string s,.slice A m c3]] w fun e w' => ∃ x,e = .returned (.iface 4 (.bool x)) ∧ Below w.heap.size w w' := by
 go_enter Tryz.func49,Tryz.ntmps49
 go_wp2
 go_ret
 exact ⟨_,rfl,ab (Below.refl _ _) _⟩
theorem aaG (n : Int) (s : ByteArray) (A : Option Addr) (m c3 : Nat) (w : World) : Calls Tryz.prog 49 #[.agg #[.int .u8 110,.int .u64 n,.string s,.slice A m c3]] w fun e w' => e = .returned (.iface 71 (.int .i16 (IntKind.i16.wrap n))) ∧ Below w.heap.size w w' := by
 go_enter Tryz.func49,Tryz.ntmps49
 go_wp2
 go_ret
 exact ⟨rfl,ab (Below.refl _ _) _⟩
theorem aaE (n : Int) (s : ByteArray) (A : Option Addr) (m c3 : Nat) (w : World) : Calls Tryz.prog 49 #[.agg #[.int .u8 113,.int .u64 n,.string s,.slice A m c3]] w fun e w' => e = .returned (.iface 120 (.int .u16 (IntKind.u16.wrap n))) ∧ Below w.heap.size w w' := by
 go_enter Tryz.func49,Tryz.ntmps49
 go_wp2
 go_ret
 exact ⟨rfl,ab (Below.refl _ _) _⟩
theorem aaH (n : Int) (s : ByteArray) (A : Option Addr) (m c3 : Nat) (w : World) : Calls Tryz.prog 49 #[.agg #[.int .u8 105,.int .u64 n,.string s,.slice A m c3]] w fun e w' => ∃ x,e = .returned (.iface 21 (.int .i32 x)) ∧ -2147483648 ≤ x ∧ x < 2147483648 ∧ Below w.heap.size w w' := by
 go_enter Tryz.func49,Tryz.ntmps49
 go_wp2
 go_ret
 exact ⟨_,rfl,(KO _).1,(KO _).2,ab (Below.refl _ _) _⟩
theorem aaB (n : Int) (s : ByteArray) (A : Option Addr) (m c3 : Nat) (w : World) : Calls Tryz.prog 49 #[.agg #[.int .u8 117,.int .u64 n,.string s,.slice A m c3]] w fun e w' => e = .returned (.iface 117 (.int .u32 (IntKind.u32.wrap n))) ∧ Below w.heap.size w w' := by
 go_enter Tryz.func49,Tryz.ntmps49
 go_wp2
 go_ret
 exact ⟨rfl,ab (Below.refl _ _) _⟩
theorem aaA (n : Int) (s : ByteArray) (A : Option Addr) (m c3 : Nat) (w : World) : Calls Tryz.prog 49 #[.agg #[.int .u8 120,.int .u64 n,.string s,.slice A m c3]] w fun e w' => ∃ x,e = .returned (.iface 2 (.int .i64 x)) ∧ -9223372036854775808 ≤ x ∧ x < 9223372036854775808 ∧ Below w.heap.size w w' := by
 go_enter Tryz.func49,Tryz.ntmps49
 go_wp2
 go_ret
 exact ⟨_,rfl,(KM _).1,(KM _).2,ab (Below.refl _ _) _⟩
theorem aaC (n : Int) (s : ByteArray) (A : Option Addr) (m c3 : Nat) (w : World) : Calls Tryz.prog 49 #[.agg #[.int .u8 116,.int .u64 n,.string s,.slice A m c3]] w fun e w' => e = .returned (.iface 22 (.int .u64 (n))) ∧ Below w.heap.size w w' := by
 go_enter Tryz.func49,Tryz.ntmps49
 go_wp2
 go_ret
 exact ⟨rfl,ab (Below.refl _ _) _⟩
theorem aaK (n : Int) (s : ByteArray) (A : Option Addr) (m c3 : Nat) (w : World) : Calls Tryz.prog 49 #[.agg #[.int .u8 100,.int .u64 n,.string s,.slice A m c3]] w fun e w' => ∃ x,e = .returned (.iface 121 (.float .f64 x)) ∧ Below w.heap.size w w' := by
 have hfb := Ij n
 go_enter Tryz.func49,Tryz.ntmps49
 go_wp2
 go_ret
 exact ⟨_,rfl,ab (Below.refl _ _) _⟩
theorem aaD (n : Int) (s : ByteArray) (A : Option Addr) (m c3 : Nat) (w : World) : Calls Tryz.prog 49 #[.agg #[.int .u8 115,.int .u64 n,.string s,.slice A m c3]] w fun e w' => e = .returned (.iface 9 (.string (s))) ∧ Below w.heap.size w w' := by
 go_enter Tryz.func49,Tryz.ntmps49
 go_wp2
 go_ret
 exact ⟨rfl,ab (Below.refl _ _) _⟩
theorem aaF (n : Int) (s : ByteArray) (A : Option Addr) (m c3 : Nat) (w : World) : Calls Tryz.prog 49 #[.agg #[.int .u8 111,.int .u64 n,.string s,.slice A m c3]] w fun e w' => e = .returned (.iface 123 (.string (s))) ∧ Below w.heap.size w w' := by
 go_enter Tryz.func49,Tryz.ntmps49
 go_wp2
 go_ret
 exact ⟨rfl,ab (Below.refl _ _) _⟩
theorem aaJ (n : Int) (s : ByteArray) (A : Option Addr) (m c3 : Nat) (w : World) : Calls Tryz.prog 49 #[.agg #[.int .u8 103,.int .u64 n,.string s,.slice A m c3]] w fun e w' => e = .returned (.iface 131 (.agg #[.string (s)])) ∧ Below w.heap.size w w' := by
 go_enter Tryz.func49,Tryz.ntmps49
 go_wp2
 go_ret
 exact ⟨rfl,ab (Below.refl _ _) _⟩
theorem aaI (n : Int) (s : ByteArray) (A : Option Addr) (m c3 : Nat) (w : World) : Calls Tryz.prog 49 #[.agg #[.int .u8 104,.int .u64 n,.string s,.slice A m c3]] w fun e w' => e = .returned (.iface 148 (.int .u32 (IntKind.u32.wrap n))) ∧ Below w.heap.size w w' := by
 go_enter Tryz.func49,Tryz.ntmps49
 go_wp2
 go_ret
 exact ⟨rfl,ab (Below.refl _ _) _⟩
theorem U6 (x : cY) (c : UInt8) (hc : dy c = true) (h0 : x.f0 = (c.toNat : Int)) (hL : PC x c) : DV x [c] 0 (x.f2.size + 40) := by
 intro A c3 w _
 rw [h0]
 simp only [dy,Bool.or_eq_true,beq_iff_eq] at hc
 rcases hc with ((((((((((((hc | hc) | hc) | hc) | hc) | hc) | hc) | hc) | hc) | hc) | hc) | hc) | hc) <;> subst hc
 · refine (aaz x.f1 x.f2 A x.f3.length c3 w).mono ?_
   rintro e w' ⟨rfl,hb⟩
   obtain ⟨y,hy,Ef⟩ : ∃ y : Nat,IntKind.u8.wrap x.f1 = (y : Int) ∧ y < 256 := by
    have h0 : 0 ≤ IntKind.u8.wrap x.f1 := by simp [IntKind.wrap,IntKind.bits,IntKind.signed]; omega
    have h1 : IntKind.u8.wrap x.f1 < 256 := by simp [IntKind.wrap,IntKind.bits,IntKind.signed]; omega
    exact ⟨(IntKind.u8.wrap x.f1).toNat,by omega,by omega⟩
   rw [hy]
   refine ⟨_,_,_,rfl,(ae9 y Ef w').more (Nat.le_refl _) (by omega),fun k hk => hk.elim,hb,?_⟩
   rintro c hc e
   obtain rfl := List.singleton_inj.1 e
   unfold BV; left; exact ⟨rfl,_,rfl⟩
 · refine (ac7 x.f1 x.f2 A x.f3.length c3 w).mono ?_
   rintro e w' ⟨y,rfl,hb⟩
   refine ⟨_,_,_,rfl,(afk y w').more (Nat.le_refl _) (by omega),fun k hk => hk.elim,hb,?_⟩
   rintro c hc e
   obtain rfl := List.singleton_inj.1 e
   exact absurd hc (by decide)
 · refine (aaG x.f1 x.f2 A x.f3.length c3 w).mono ?_
   rintro e w' ⟨rfl,hb⟩
   obtain ⟨y,hy,h0,h1⟩ : ∃ y : Int,IntKind.i16.wrap x.f1 = y ∧ -32768 ≤ y ∧ y < 32768 := ⟨_,rfl,by simp only [IntKind.wrap,IntKind.bits,IntKind.signed,if_true]; first | omega | (simp; omega),by simp only [IntKind.wrap,IntKind.bits,IntKind.signed,if_true]; first | omega | (simp; omega)⟩
   rw [hy]
   refine ⟨_,_,_,rfl,(aff y h0 h1 w').more (Nat.le_refl _) (by omega),fun k hk => hk.elim,hb,?_⟩
   rintro c hc e
   obtain rfl := List.singleton_inj.1 e
   unfold BV; right; left; exact ⟨rfl,_,rfl⟩
 · refine (aaE x.f1 x.f2 A x.f3.length c3 w).mono ?_
   rintro e w' ⟨rfl,hb⟩
   obtain ⟨y,hy,Ef⟩ : ∃ y : Nat,IntKind.u16.wrap x.f1 = (y : Int) ∧ y < 65536 := by
    have h0 : 0 ≤ IntKind.u16.wrap x.f1 := by simp [IntKind.wrap,IntKind.bits,IntKind.signed]; omega
    have h1 : IntKind.u16.wrap x.f1 < 65536 := by simp [IntKind.wrap,IntKind.bits,IntKind.signed]; omega
    exact ⟨(IntKind.u16.wrap x.f1).toNat,by omega,by omega⟩
   rw [hy]
   refine ⟨_,_,_,rfl,(afd y Ef w').more (Nat.le_refl _) (by omega),fun k hk => hk.elim,hb,?_⟩
   rintro c hc e
   obtain rfl := List.singleton_inj.1 e
   unfold BV; right; right; left; exact ⟨rfl,_,rfl⟩
 · refine (aaH x.f1 x.f2 A x.f3.length c3 w).mono ?_
   rintro e w' ⟨y,rfl,h0,h1,hb⟩
   refine ⟨_,_,_,rfl,(afg y h0 h1 w').more (Nat.le_refl _) (by omega),fun k hk => hk.elim,hb,?_⟩
   rintro c hc e
   obtain rfl := List.singleton_inj.1 e
   unfold BV; right; right; right; left; exact ⟨rfl,_,rfl⟩
 · refine (aaB x.f1 x.f2 A x.f3.length c3 w).mono ?_
   rintro e w' ⟨rfl,hb⟩
   obtain ⟨y,hy,Ef⟩ : ∃ y : Nat,IntKind.u32.wrap x.f1 = (y : Int) ∧ y < 4294967296 := by
    have h0 : 0 ≤ IntKind.u32.wrap x.f1 := by simp [IntKind.wrap,IntKind.bits,IntKind.signed]; omega
    have h1 : IntKind.u32.wrap x.f1 < 4294967296 := by simp [IntKind.wrap,IntKind.bits,IntKind.signed]; omega
    exact ⟨(IntKind.u32.wrap x.f1).toNat,by omega,by omega⟩
   rw [hy]
   refine ⟨_,_,_,rfl,(afa y Ef w').more (Nat.le_refl _) (by omega),fun k hk => hk.elim,hb,?_⟩
   rintro c hc e
   obtain rfl := List.singleton_inj.1 e
   unfold BV; right; right; right; right; left; exact ⟨rfl,_,rfl⟩
 · refine (aaA x.f1 x.f2 A x.f3.length c3 w).mono ?_
   rintro e w' ⟨y,rfl,h0,h1,hb⟩
   refine ⟨_,_,_,rfl,(ae' y h0 h1 w').more (Nat.le_refl _) (by omega),fun k hk => hk.elim,hb,?_⟩
   rintro c hc e
   obtain rfl := List.singleton_inj.1 e
   unfold BV; right; right; right; right; right; left; exact ⟨rfl,_,rfl⟩
 · refine (aaC x.f1 x.f2 A x.f3.length c3 w).mono ?_
   rintro e w' ⟨rfl,hb⟩
   obtain ⟨y,hy,Ef⟩ : ∃ y : Nat,x.f1 = (y : Int) ∧ y < 18446744073709551616 := by
    have h0 : 0 ≤ x.f1 := by have := hL.n; omega
    have h1 : x.f1 < 18446744073709551616 := by have := hL.n; omega
    exact ⟨(x.f1).toNat,by omega,by omega⟩
   rw [hy]
   refine ⟨_,_,_,rfl,(afb y Ef w').more (Nat.le_refl _) (by omega),fun k hk => hk.elim,hb,?_⟩
   rintro c hc e
   obtain rfl := List.singleton_inj.1 e
   unfold BV; right; right; right; right; right; right; left; exact ⟨rfl,_,rfl⟩
 · refine (aaK x.f1 x.f2 A x.f3.length c3 w).mono ?_
   rintro e w' ⟨y,rfl,hb⟩
   refine ⟨_,_,_,rfl,(afj y w').more (Nat.le_refl _) (by omega),fun k hk => hk.elim,hb,?_⟩
   rintro c hc e
   obtain rfl := List.singleton_inj.1 e
   unfold BV; right; right; right; right; right; right; right; left; exact ⟨rfl,_,rfl⟩
 · refine (aaD x.f1 x.f2 A x.f3.length c3 w).mono ?_
   rintro e w' ⟨rfl,hb⟩
   refine ⟨_,_,_,rfl,(afc x.f2 hL.sz (hL.s (by decide)).1 (hL.s (by decide)).2 w').more (Nat.le_refl _) (by omega),fun k hk => hk.elim,hb,?_⟩
   rintro c hc e
   obtain rfl := List.singleton_inj.1 e
   unfold BV; right; right; right; right; right; right; right; right; left; exact ⟨rfl,_,rfl⟩
 · refine (aaF x.f1 x.f2 A x.f3.length c3 w).mono ?_
   rintro e w' ⟨rfl,hb⟩
   obtain ⟨kp,hkp⟩ := hL.p rfl
   refine ⟨_,_,_,rfl,(afe x.f2 hL.sz (hL.s (by decide)).1 (hL.s (by decide)).2 kp hkp w').more (Nat.le_refl _) (by omega),fun k hk => hk.elim,hb,?_⟩
   rintro c hc e
   obtain rfl := List.singleton_inj.1 e
   unfold BV; right; right; right; right; right; right; right; right; right; left; exact ⟨rfl,_,rfl⟩
 · refine (aaJ x.f1 x.f2 A x.f3.length c3 w).mono ?_
   rintro e w' ⟨rfl,hb⟩
   refine ⟨_,_,_,rfl,(afi x.f2 hL.sz w').more (Nat.le_refl _) (by omega),fun k hk => hk.elim,hb,?_⟩
   rintro c hc e
   obtain rfl := List.singleton_inj.1 e
   exact absurd hc (by decide)
 · refine (aaI x.f1 x.f2 A x.f3.length c3 w).mono ?_
   rintro e w' ⟨rfl,hb⟩
   obtain ⟨y,hy,Ef⟩ : ∃ y : Nat,IntKind.u32.wrap x.f1 = (y : Int) ∧ y < 4294967296 := by
    have h0 : 0 ≤ IntKind.u32.wrap x.f1 := by simp [IntKind.wrap,IntKind.bits,IntKind.signed]; omega
    have h1 : IntKind.u32.wrap x.f1 < 4294967296 := by simp [IntKind.wrap,IntKind.bits,IntKind.signed]; omega
    exact ⟨(IntKind.u32.wrap x.f1).toNat,by omega,by omega⟩
   rw [hy]
   refine ⟨_,_,_,rfl,(afh y Ef w').more (Nat.le_refl _) (by omega),fun k hk => hk.elim,hb,?_⟩
   rintro c hc e
   obtain rfl := List.singleton_inj.1 e
   unfold BV; right; right; right; right; right; right; right; right; right; right; exact ⟨rfl,_,rfl⟩
theorem aax (x y : cY) (l t : List UInt8) (h0 : x.f0 = 118) (h3 : x.f3 = [y]) (hz : Z 32 32 32 l t) (hl : l.length ≤ 255) {d K : Nat} (ih : DV y t d K) : DV x [118] (d + 1) (K + 400) := by
 intro A c3 w hC
 rw [h0,h3]
 rw [h3] at hC
 have Dn : Kd.C kj w A 1 [y] := hC
 obtain ⟨ad,A3,c4,rfl,q0,q1,q2,q3,lC,bN⟩ := vG Dn 0 (by omega) (by omega)
 have lB : eP [y] 0 = y := rfl
 rw [lB] at q0 q1 q2 q3 lC bN
 have hadd : ad.add 0 = ad := by unfold Addr.add; split <;> simp_all
 simp only [Int.toNat_zero,Nat.zero_mul,hadd] at q0 q1 q2 q3
 have bH := ab (Below.refl w.heap.size w) (.cells #[.int .u8 118,.int .u64 x.f1,.string x.f2,.slice (some ad) 1 c3] 65)
 have p0 := ag bH q0
 have p1 := ag bH q1
 have p2 := ag bH q2
 have p3 := ag bH q3
 have IH := U.mk (ih A3 c4 _ (Kd.bD bN bH))
 have LC := U.mk bH
 clear hC Dn bN ih bH q0 q1 q2 q3
 go_enter Tryz.func49,Tryz.ntmps49
 go_wp2_with fail
 refine IH.out.mono ?_
 rintro e1 w2 ⟨dT,u,S,rfl,hT,hS,hb,_⟩
 have HT := U.mk (And.intro hT.ty.is (And.intro hT hS))
 have HB := U.mk (aw LC.out hb)
 clear hT hS hb
 go_wp2_with fail
 refine (Qv dT u l t hz hl _ HT.out.1).mono ?_
 rintro e1 w3 ⟨rfl,hb⟩
 have bU := U.mk (aw HB.out hb)
 have HE3 := U.mk (HT.out.2.1.up hb)
 clear hb
 go_wp2_with fail
 go_ret
 refine ⟨_,_,_,rfl,aam HE3.out (Bs l) (by simpa [Bs,ByteArray.size] using hl),fun k hk => by have := HT.out.2.2 k hk; have := LC.out.size; omega,bU.out,?_⟩
 rintro c hc e
 obtain rfl := List.singleton_inj.1 e
 exact absurd hc (by decide)
theorem Is {w : World} {base n : Nat} {v : Value} {xs : List Value} (h : w.ownsRow base 20 1 v n xs) : ∃ (A : Option Nat) (c : Nat),v = .slice (A.map fun g => ⟨g,0,none⟩) n c := by
 rcases h.2 with ⟨e,h0⟩ | ⟨g,cap,cur,e,_⟩
 · exact ⟨none,0,by rw [e,h0]; rfl⟩
 · exact ⟨some g,cap,by rw [e]; rfl⟩
theorem aan (w : World) (base lo : Nat) (A : Option Addr) (n c : Nat) (vs : List Value) (zs : List (List UInt8 × List UInt8)) (Ks : List Nat) (d : Nat) (hO : w.ownsRow base 20 1 (.slice A n c) n vs) (Zp : lo ≤ base) (Ee : zs.length = n) (cf : Ks.length = n) (hn : n ≤ 1000) (hz : ∀ z ∈ zs,Z 32 32 32 z.1 z.2) (vA : (zs.map Prod.snd).flatten.length ≤ 100000)
 (hT : ∀ (j : Nat) u,vs[j]? = some u → ∃ z S,zs[j]? = some z ∧ EV w S u z.2 d (Ks.getD j 0) ∧ (∃ dT q,u = .iface dT q) ∧ ∀ k,S k → lo ≤ k) : ∃ Sx,EV w Sx (.iface 150 (.agg #[.slice A n c])) (40 :: ((zs.map Prod.snd).flatten ++ [41])) (d + 1) (Ks.sum + 20) ∧ ∀ k,Sx k → lo ≤ k := by
 have iJ : vs.length = n := by simpa using hO.1
 refine ⟨fun k => (Value.slice A n c).ownBlock = some k ∨ ∃ (j : Nat) (u : Value) (z : List UInt8 × List UInt8) (S : Nat → Prop),vs[j]? = some u ∧ zs[j]? = some z ∧ EV w S u z.2 d (Ks.getD j 0) ∧ (∀ k,S k → lo ≤ k) ∧ S k,⟨⟨?_,?_⟩,?_⟩,?_⟩
 · rintro k (hk | ⟨j,u,t,S,_,_,h,_,hk⟩)
   · exact gq hO k hk
   · exact h.ty.1 k hk
 · intro W hW
   have hO2 := kv hO (w1 := W) fun k hk => hW k (.inl hk)
   refine WR W A n c vs (zs.map Prod.snd) iJ (by rw [List.length_map]; exact Ee) hn vA ?_ ?_ W (Below.refl _ _)
   · intro j v hv
     obtain ⟨g,e,_,hc⟩ := hJ hO2 j v hv
     exact ⟨_,e,by rwa [show (⟨g,0,none⟩ : Addr).add j = ⟨g,j,none⟩ by unfold Addr.add; split <;> simp_all]⟩
   · intro j v t hv Gn
     obtain ⟨z,S,h1,h2,_,h3⟩ := hT j v hv
     rw [List.getElem?_map,h1] at Gn
     obtain rfl := Option.some.inj Gn
     exact h2.ty.at fun k hk => hW k (.inr ⟨j,v,z,S,hv,h1,h2,h3,hk⟩)
 · refine aat _ w A n c vs zs Ks d iJ Ee cf hn hz vA ?_ ?_
   · intro j v hv
     obtain ⟨g,e,_,_⟩ := hJ hO j v hv
     refine ⟨_,e,fun W hW => ?_⟩
     obtain ⟨g2,e2,_,hc⟩ := hJ (kv hO (w1 := W) fun k hk => hW k (.inl hk)) j v hv
     rw [e] at e2
     obtain rfl : g = g2 := by injection e2 with e2; injection e2
     rwa [show (⟨g,0,none⟩ : Addr).add j = ⟨g,j,none⟩ by unfold Addr.add; split <;> simp_all]
   · intro j v z hv Y7
     obtain ⟨z', S,h1,h2,⟨dT,q,rfl⟩,h3⟩ := hT j v hv
     obtain rfl := Option.some.inj (h1.symm.trans Y7)
     exact ⟨dT,q,S,rfl,h2,fun k hk => .inr ⟨j,_,z', S,hv,h1,h2,h3,hk⟩⟩
 · rintro k (hk | ⟨j,u,t,S,_,_,_,h,hk⟩)
   · have := dY hO k hk; omega
   · exact h k hk
theorem aao (w : World) (base L lo : Nat) (v : Value) (n : Nat) (vs : List Value) (te : List UInt8) (Ks : List Nat) (d al : Nat) (gM : al = 1 ∨ al = 2 ∨ al = 4 ∨ al = 8) (AE : ∀ W,Calls Tryz.prog 60 #[.string (Bs te)] W fun e w' => e = .returned (.int .i64 (al : Int)) ∧ Below W.heap.size W w') (I2 : te.length ≤ 100000)
 (hrow : w.heap[L]? = some (.cells #[.string (Bs te),v] 155 (0,0))) (hO : w.ownsRow base 20 1 v n vs) (aeS : lo ≤ L) (Zp : lo ≤ base) (cf : Ks.length = n) (hn : n ≤ 1000) (BF : Ks.sum ≤ 67000000)
 (hT : ∀ (j : Nat) u,vs[j]? = some u → ∃ S,EV w S u te d (Ks.getD j 0) ∧ (∃ dT q,u = .iface dT q) ∧ ∀ k,S k → lo ≤ k) : ∃ Sx,EV w Sx (.iface 153 (.pointer (some ⟨L,0,none⟩))) (91 :: te) (d + 1) (Ks.sum + 60) ∧ ∀ k,Sx k → lo ≤ k := by
 have iJ : vs.length = n := by simpa using hO.1
 obtain ⟨A,cap,rfl⟩ := Is hO
 refine ⟨fun k => k = L ∨ (Value.slice (A.map fun g => ⟨g,0,none⟩) n cap).ownBlock = some k ∨ ∃ (j : Nat) (u : Value) (S : Nat → Prop),vs[j]? = some u ∧ EV w S u te d (Ks.getD j 0) ∧ (∀ k,S k → lo ≤ k) ∧ S k,⟨⟨?_,?_⟩,?_⟩,?_⟩
 · rintro k (rfl | hk | ⟨j,u,S,_,h,_,hk⟩)
   · exact (Array.getElem?_eq_some_iff.1 hrow).1
   · exact gq hO k hk
   · exact h.ty.1 k hk
 · exact fun W hW => UA W L te _ I2 ((hW L (.inl rfl)).trans hrow) W (Below.refl _ _)
 · refine aau _ w L A cap vs te Ks d al gM AE (by omega) (by omega) BF ?_ ?_
   · intro W hW
     refine ⟨by rw [iJ]; exact (hW L (.inl rfl)).trans hrow,fun j v hv => ?_⟩
     obtain ⟨g,e,_,hc⟩ := hJ (kv hO (w1 := W) fun k hk => hW k (.inr (.inl hk))) j v hv
     cases A with
     | none => cases e
     | some g2=>
       obtain rfl : g2 = g := by simp at e; exact e
       exact ⟨g2,rfl,hc⟩
   · intro j v hv
     obtain ⟨S,h2,⟨dT,q,rfl⟩,h3⟩ := hT j v hv
     exact ⟨dT,q,S,rfl,h2,fun k hk => .inr (.inr ⟨j,_,S,hv,h2,h3,hk⟩)⟩
 · rintro k (rfl | hk | ⟨j,u,S,_,_,h,hk⟩)
   · exact aeS
   · have := dY hO k hk; omega
   · exact h k hk
end Go.Proofs.YtkdebhgccpfkiaaGreatDoor.au
