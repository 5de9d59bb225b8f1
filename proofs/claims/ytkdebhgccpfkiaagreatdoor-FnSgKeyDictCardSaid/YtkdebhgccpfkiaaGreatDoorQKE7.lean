import Derived.Test.YtkdebhgccpfkiaaGreatDoorQKE6
import Derived.Defers
import Derived.Recover
import Derived.Test.YtkdebhgccpfkiaaGreatDoorQKE3
import Derived.Test.YtkdebhgccpfkiaaGreatDoorQKH2
set_option maxRecDepth 100000
set_option maxHeartbeats 16000000
namespace Go.Proofs.YtkdebhgccpfkiaaGreatDoor.au
open Go.RowKit Go.Proofs.aa.az Go.Proofs.aa.aM Go.Proofs.aa.aU
attribute [local go_sem] ba bh
set_option linter.unusedVariables false
set_option linter.unusedSimpArgs false
attribute [local go_sem] jB kK iy fW fV fw fU fT
open Go.Proofs.YtkdebhgccpfkiaaGreatDoor.fD Go.Proofs.YtkdebhgccpfkiaaGreatDoor.fO Go.Proofs.YtkdebhgccpfkiaaGreatDoor.gw
theorem DI.up {w w' : World} {L : Nat} {E1 E2 : ByteArray} {ks vs : Value} {n : Nat} {kl vl : List Value} (h : DI w L E1 E2 ks vs n kl vl) (hb : Below w.heap.size w w') : DI w' L E1 E2 ks vs n kl vl := ⟨aQ hb h.row,iU h.k hb,iU h.v hb,h.ap⟩
def Entry (c : UInt8) (te : List UInt8) (d K : Nat) (y : cY) : Prop := ∃ k0 k1 rest Ka Kb,y.f3 = k0 :: k1 :: rest ∧ DV k0 [c] d Ka ∧ DV k1 te d Kb ∧ Ka + Kb + 8 ≤ K
theorem U7 (x : cY) (c : UInt8) (ls te : List UInt8) (h0 : x.f0 = 97) (h2 : x.f2 = Bs (123 :: ls)) (hk : fJ c = true) (hls : ls.length ≤ 100000) (Dh : DT (97 :: 123 :: ls) (123 :: c :: te)) (I2 : te.length ≤ 100000) (hn : x.f3.length ≤ 1000) (FW : c ≠ 100) (KK : List Nat) (d0 : Nat) (Gv : KK.length = x.f3.length) (BF : KK.sum ≤ 67000000) (ih : ∀ (j : Nat) y,x.f3[j]? = some y → Entry c te d0 (KK.getD j 0) y) : DV x (123 :: c :: te) (d0 + 2) (KK.sum + 60) := by
 intro A c3 w hC
 rw [h0,h2]
 obtain ⟨n,fL⟩ : ∃ n,x.f3.length = n := ⟨_,rfl⟩
 have HC := U.mk hC
 rw [fL] at hn Gv ⊢
 have Ug := U.mk (And.intro Gv (And.intro BF FW))
 clear Gv BF FW
 have yQ : (⟨#[97]⟩ : ByteArray) ++ Bs (123 :: ls) = Bs (97 :: 123 :: ls) := fc [97] (123 :: ls)
 have QW : (9223372036854775807 < 1 + (Bs (123 :: ls)).size) = False := eq_false (by rw [aZ,List.length_cons]; omega)
 obtain ⟨s,hs⟩ : ∃ s,Bs (123 :: ls) = s := ⟨_,rfl⟩
 have Gy : ∀ h : 0 < s.size,((s[0]'h).toNat : Int) = 123 := by subst hs; exact yO 123 ls
 have q0 : 0 < s.size := by rw [← hs,aZ]; simp
 have q1 : (0 < s.size) = True := eq_true q0
 have q2 : ((0 : Int) < (s.size : Int)) = True := eq_true (by omega)
 have q3 : (s.toList == ([] : List UInt8)) = false := by rw [← hs,ch,fH]; exact beq_eq_false_iff_ne.mpr (by simp)
 rw [hs] at yQ QW ⊢
 unfold DT at Dh
 have HDT := U.mk Dh
 have IH := U.mk ih
 have ix := U.mk fL
 have bH := ab (Below.refl w.heap.size w) (.cells #[.int .u8 97,.int .u64 x.f1,.string s,.slice A n c3] 65)
 have c1 : (w.alloc (.cells #[.int .u8 97,.int .u64 x.f1,.string s,.slice A n c3] 65)).heap[w.heap.size]? = some (.cells #[.int .u8 97,.int .u64 x.f1,.string s,.slice A n c3] 65 (0,0)) := heap_alloc_new w _
 have LC := U.mk bH
 have C1 := U.mk c1
 clear Dh ih hC hs bH c1 q0 h0 h2 fL
 go_enter Tryz.func49,Tryz.ntmps49
 go_wp2_with fail
 refine (HDT.out _).mono ?_
 rintro e1 w2 ⟨rfl,hb⟩
 have cO := U.mk (aw LC.out hb)
 have C2 := U.mk (aQ hb C1.out)
 clear hb
 go_wp2_with fail
 refine (Qw c te _).mono ?_
 rintro e1 w3 ⟨L,rfl,ZQ,Tw,hb⟩
 have Bq : w.heap.size < w2.heap.size := (Array.getElem?_eq_some_iff.1 C2.out).1
 have C3 := aQ hb C2.out
 have p3 : w3.cell? ⟨w.heap.size,3,none⟩ = some (.slice A n c3) := (cell_of_row w3 w.heap.size 3 _ 65 (0,0) C3).trans rfl
 have Yu := fun o => ag (ab (Below.refl w3.heap.size w3) o) p3
 have bU := U.mk (aw cO.out hb)
 have HL3 := U.mk Tw
 clear hb C3 Tw
 go_wp2_with fail
 have ZP := heap_alloc_new w3 (.cells #[.iface 170 (.pointer (some ⟨L,0,none⟩)),.string (Bs (123 :: c :: te))] 86)
 have bZ := ab (Below.refl w3.heap.size w3) (.cells #[.iface 170 (.pointer (some ⟨L,0,none⟩)),.string (Bs (123 :: c :: te))] 86)
 have gy := U.mk (aw bU.out bZ)
 have hL4 := aQ bZ HL3.out
 have hLM : L < w3.heap.size := (Array.getElem?_eq_some_iff.1 HL3.out).1
 obtain ⟨M,hM⟩ : ∃ M,w3.heap.size = M := ⟨_,rfl⟩
 rw [hM] at ZP
 simp only [hM] at hLM ⊢
 have HS0 := U.mk (And.intro ZP hL4)
 clear ZP bZ hL4 p3 Yu HL3
 generalize w3.alloc (.cells #[.iface 170 (.pointer (some ⟨L,0,none⟩)),.string (Bs (123 :: c :: te))] 86) = W0 at *
 go_loopg [137] n (fun kq aem wr => ∃ (i : Nat) (ks vs : Value) (m : Nat) (kl vl : List Value),aem = .int .i64 (i : Int) ∧ i ≤ n ∧ m ≤ i ∧ U (kq = n - i ∧ Below w.heap.size w wr ∧ wr.heap[M]? = some (.cells #[.iface 170 (.pointer (some ⟨L,0,none⟩)),.string (Bs (123 :: c :: te))] 86 (0,0)) ∧ DI wr L (Bs [c]) (Bs te) ks vs m kl vl ∧ (∀ v ∈ kl,BV c v) ∧ ∃ Ks,DE wr w.heap.size L ks vs kl vl c te d0 (KK.take i).sum Ks))
 case atStart => exact ⟨0,.slice none 0 0,.slice none 0 0,0,[],[],rfl,by omega,by omega,⟨rfl,gy.out,HS0.out.1,⟨HS0.out.2,World.ownsRow_nil _ _ _ _,World.ownsRow_nil _ _ _ _,fun q h => by simp [Value.ownBlock] at h⟩,(fun v h => by cases h),[],rfl,by simp,fun j k v h => by simp at h,fun i j k1 k2 _ h => by simp at h⟩⟩
 case round=>
  obtain ⟨i,ks,vs,m,kl,vl,rfl,hi,hm,HI⟩ := hrel
  have fP := U.mk HI.out.1
  by_cases hlt : i < n
  · have hd : decide ((i : Int) < (n : Int)) = true := by simpa using hlt
    have iI : IntKind.i64.wrap ((i : Int) + 1) = ((i + 1 : Nat) : Int) := by rw [IntKind.wrap_i64]; omega
    have j4 : i < x.f3.length := by rw [ix.out]; exact hlt
    obtain ⟨ad,A3,c4,rfl,q0,q1,q2,q3,lC,bN⟩ := vG HC.out (i : Int) (by omega) (by omega)
    have lB : eP x.f3 (i : Int) = x.f3[i] := by
     unfold eP
     rw [Int.toNat_natCast,List.getD_eq_getElem?_getD,List.getElem?_eq_getElem j4]
     rfl
    obtain ⟨y,hy⟩ : ∃ y,x.f3[i] = y := ⟨_,rfl⟩
    rw [lB,hy] at q0 q1 q2 q3 lC bN
    obtain ⟨k0,k1,rest,Ka,Kb,Tf,hD0,hD1,ZU⟩ := IH.out i y (by rw [List.getElem?_eq_getElem j4,hy])
    have afW : U (Ka + Kb + 8 ≤ KK.getD i 0) := ⟨ZU⟩
    clear ZU
    have acV : 2 ≤ y.f3.length := by rw [Tf]; simp
    obtain ⟨a8,A5,c5,rfl,a0,a1,a2,a3,_,Lg⟩ := vG bN 0 (by omega) (by omega)
    obtain ⟨afS,A6,c6,e3,b0,b1,b2,b3,_,Lf⟩ := vG bN 1 (by omega) (by omega)
    obtain rfl : a8 = afS := Option.some.inj e3
    have r0 : eP y.f3 0 = k0 := by unfold eP; rw [Tf]; rfl
    have r1 : eP y.f3 1 = k1 := by unfold eP; rw [Tf]; rfl
    rw [r0] at a0 a1 a2 a3 Lg
    rw [r1] at b0 b1 b2 b3 Lf
    have hadd : a8.add 0 = a8 := by unfold Addr.add; split <;> simp_all
    simp only [Int.toNat_zero,Nat.zero_mul,hadd] at a0 a1 a2 a3
    have Tv : a8.add 4 = ⟨a8.block,a8.off + 4,none⟩ := by simp [Addr.add]
    simp only [Int.toNat_one,Nat.one_mul,Tv] at b0 b1 b2 b3
    have HK := U.mk (And.intro a0 (And.intro a1 (And.intro a2 (And.intro a3 (And.intro b0 (And.intro b1 (And.intro b2 b3)))))))
    have hka : a8.block < w.heap.size := World.block_lt_of_cell? w _ HK.out.1
    have HD0 := U.mk hD0
    have HD1 := U.mk hD1
    have PK := U.mk Lg
    have PJ := U.mk Lf
    obtain ⟨ln,eV⟩ : ∃ ln,y.f3.length = ln := ⟨_,rfl⟩
    rw [eV] at acV lC q3
    have aif : ((0 : Int) < (ln : Int)) = True := eq_true (by omega)
    have aid : ((1 : Int) < (ln : Int)) = True := eq_true (by omega)
    have aie : (0 < ln) = True := eq_true (by omega)
    have aic : (1 < ln) = True := eq_true (by omega)
    replace q0 := ag HI.out.2.1 q0
    replace q1 := ag HI.out.2.1 q1
    replace q2 := ag HI.out.2.1 q2
    replace q3 := ag HI.out.2.1 q3
    clear eV Tv lB bN hy j4 hD0 hD1 Lg Lf a0 a1 a2 a3 b0 b1 b2 b3 r0 r1 e3 Tf hadd
    simp only [Int.toNat_natCast] at q0 q1 q2 q3
    go_wp2_with fail
    have h5 := heap_alloc_new wr (.cells #[.int .u8 y.f0,.int .u64 y.f1,.string y.f2,.slice (some a8) ln c4] 65)
    have bZ := ab (Below.refl wr.heap.size wr) (.cells #[.int .u8 y.f0,.int .u64 y.f1,.string y.f2,.slice (some a8) ln c4] 65)
    have hM5 := aQ bZ HI.out.2.2.1
    have OO := HI.out.2.2.2.1.up bZ
    have BI := aw HI.out.2.1 bZ
    have J2 := U.mk HI.out.2.2.2.2.1
    obtain ⟨Ks,Le⟩ := HI.out.2.2.2.2.2
    have ZX := Le.up (ak bZ)
    have Zn : w.heap.size ≤ wr.heap.size := HI.out.2.1.size
    have HOL : U (L < wr.heap.size ∧ (∀ q,ks.ownBlock = some q → q < wr.heap.size) ∧ ∀ q,vs.ownBlock = some q → q < wr.heap.size) := ⟨(Array.getElem?_eq_some_iff.1 HI.out.2.2.2.1.row).1,fun q hq => gq HI.out.2.2.2.1.k q hq,fun q hq => gq HI.out.2.2.2.1.v q hq⟩
    have PI := U.mk (And.intro ZX (And.intro Zn bZ.size))
    clear Le ZX Zn
    have ae2 := (Array.getElem?_eq_some_iff.1 HI.out.2.2.1).1
    obtain ⟨g5,xD⟩ : ∃ g,wr.heap.size = g := ⟨_,rfl⟩
    rw [xD] at h5 ae2
    simp only [xD]
    generalize wr.alloc (.cells #[.int .u8 y.f0,.int .u64 y.f1,.string y.f2,.slice (some a8) ln c4] 65) = W4 at *
    have H5 : U (W4.drew.heap[M]? = some (.cells #[.iface 170 (.pointer (some ⟨L,0,none⟩)),.string (Bs (123 :: c :: te))] 86 (0,0)) ∧ W4.drew.heap[g5]? = some (.cells #[.int .u8 y.f0,.int .u64 y.f1,.string y.f2,.slice (some a8) ln c4] 65 (0,0)) ∧ DI W4.drew L (Bs [c]) (Bs te) ks vs m kl vl ∧ Below w.heap.size w W4.drew) := by
     exact ⟨hM5,h5,⟨OO.row,OO.k,OO.v,OO.ap⟩,ak BI⟩
    clear h5 bZ hM5 OO BI q0 q1 q2 q3 xD
    have AF : U (W4.drew.cell? ⟨M,0,none⟩ = some (.iface 170 (.pointer (some ⟨L,0,none⟩))) ∧ W4.drew.cell? ⟨M,1,none⟩ = some (.string (Bs (123 :: c :: te))) ∧ W4.drew.cell? ⟨g5,3,none⟩ = some (.slice (some a8) ln c4) ∧ W4.drew.cell? a8 = some (.int .u8 k0.f0) ∧ W4.drew.cell? ⟨a8.block,a8.off + 1,none⟩ = some (.int .u64 k0.f1) ∧ W4.drew.cell? ⟨a8.block,a8.off + 2,none⟩ = some (.string k0.f2) ∧ W4.drew.cell? ⟨a8.block,a8.off + 3,none⟩ = some (.slice A5 k0.f3.length c5) ∧ W4.drew.cell? ⟨a8.block,a8.off + 4,none⟩ = some (.int .u8 k1.f0) ∧ W4.drew.cell? ⟨a8.block,a8.off + 4 + 1,none⟩ = some (.int .u64 k1.f1) ∧ W4.drew.cell? ⟨a8.block,a8.off + 4 + 2,none⟩ = some (.string k1.f2) ∧ W4.drew.cell? ⟨a8.block,a8.off + 4 + 3,none⟩ = some (.slice A6 k1.f3.length c6)) := ⟨(cell_of_row W4.drew M 0 _ 86 (0,0) H5.out.1).trans rfl,(cell_of_row W4.drew M 1 _ 86 (0,0) H5.out.1).trans rfl,(cell_of_row W4.drew g5 3 _ 65 (0,0) H5.out.2.1).trans rfl,ag H5.out.2.2.2 HK.out.1,ag H5.out.2.2.2 HK.out.2.1,ag H5.out.2.2.2 HK.out.2.2.1,ag H5.out.2.2.2 HK.out.2.2.2.1,ag H5.out.2.2.2 HK.out.2.2.2.2.1,ag H5.out.2.2.2 HK.out.2.2.2.2.2.1,ag H5.out.2.2.2 HK.out.2.2.2.2.2.2.1,ag H5.out.2.2.2 HK.out.2.2.2.2.2.2.2⟩
    go_region_held3 (fun w' => w'.cell? ⟨M,0,none⟩ = some (.iface 170 (.pointer (some ⟨L,0,none⟩))) ∧ w'.cell? ⟨M,1,none⟩ = some (.string (Bs (123 :: c :: te))) ∧ w'.cell? ⟨g5,3,none⟩ = some (.slice (some a8) ln c4) ∧ w'.cell? a8 = some (.int .u8 k0.f0) ∧ w'.cell? ⟨a8.block,a8.off + 1,none⟩ = some (.int .u64 k0.f1) ∧ w'.cell? ⟨a8.block,a8.off + 2,none⟩ = some (.string k0.f2) ∧ w'.cell? ⟨a8.block,a8.off + 3,none⟩ = some (.slice A5 k0.f3.length c5) ∧ w'.cell? ⟨a8.block,a8.off + 4,none⟩ = some (.int .u8 k1.f0) ∧ w'.cell? ⟨a8.block,a8.off + 4 + 1,none⟩ = some (.int .u64 k1.f1) ∧ w'.cell? ⟨a8.block,a8.off + 4 + 2,none⟩ = some (.string k1.f2) ∧ w'.cell? ⟨a8.block,a8.off + 4 + 3,none⟩ = some (.slice A6 k1.f3.length c6)) (first | exact kk9.out | exact Bm.out | exact xt.out | exact da.out | exact AF.out | go_keep)
     (first
       | (go_at_call 48; have hz := HX7; refine (jE d1 u1 te _ Lz.out.1).mono ?_; rintro e1 w8 ⟨rfl,hb⟩; have Ly := U.mk (aw HX7.out hb); have HV1 := U.mk (Lz.out.2.1.up hb); have adN := U.mk (aw Lz.out.2.2.2 hb); have Bm : U (w8.cell? ⟨M,0,none⟩ = some (.iface 170 (.pointer (some ⟨L,0,none⟩))) ∧ w8.cell? ⟨M,1,none⟩ = some (.string (Bs (123 :: c :: te))) ∧ w8.cell? ⟨g5,3,none⟩ = some (.slice (some a8) ln c4) ∧ w8.cell? a8 = some (.int .u8 k0.f0) ∧ w8.cell? ⟨a8.block,a8.off + 1,none⟩ = some (.int .u64 k0.f1) ∧ w8.cell? ⟨a8.block,a8.off + 2,none⟩ = some (.string k0.f2) ∧ w8.cell? ⟨a8.block,a8.off + 3,none⟩ = some (.slice A5 k0.f3.length c5) ∧ w8.cell? ⟨a8.block,a8.off + 4,none⟩ = some (.int .u8 k1.f0) ∧ w8.cell? ⟨a8.block,a8.off + 4 + 1,none⟩ = some (.int .u64 k1.f1) ∧ w8.cell? ⟨a8.block,a8.off + 4 + 2,none⟩ = some (.string k1.f2) ∧ w8.cell? ⟨a8.block,a8.off + 4 + 3,none⟩ = some (.slice A6 k1.f3.length c6)) := (⟨ag hb xt.out.1,ag hb xt.out.2.1,ag hb xt.out.2.2.1,ag hb xt.out.2.2.2.1,ag hb xt.out.2.2.2.2.1,ag hb xt.out.2.2.2.2.2.1,ag hb xt.out.2.2.2.2.2.2.1,ag hb xt.out.2.2.2.2.2.2.2.1,ag hb xt.out.2.2.2.2.2.2.2.2.1,ag hb xt.out.2.2.2.2.2.2.2.2.2.1,ag hb xt.out.2.2.2.2.2.2.2.2.2.2⟩); clear hb)
       | (go_at_call 49; have hz := Mv; refine (HD1.out A6 c6 _ (Kd.bD PJ.out (H5.out.2.2.2.trans (aC Mv.out (by have := H5.out.2.2.2.size; omega))))).mono ?_; rintro e1 w7 ⟨d1,u1,S1,rfl,ZN,OC,hb,_⟩; have HX7 := U.mk (aw Mv.out hb); have Lz := U.mk (And.intro ZN.ty.is (And.intro ZN (And.intro OC hb))); have xt : U (w7.cell? ⟨M,0,none⟩ = some (.iface 170 (.pointer (some ⟨L,0,none⟩))) ∧ w7.cell? ⟨M,1,none⟩ = some (.string (Bs (123 :: c :: te))) ∧ w7.cell? ⟨g5,3,none⟩ = some (.slice (some a8) ln c4) ∧ w7.cell? a8 = some (.int .u8 k0.f0) ∧ w7.cell? ⟨a8.block,a8.off + 1,none⟩ = some (.int .u64 k0.f1) ∧ w7.cell? ⟨a8.block,a8.off + 2,none⟩ = some (.string k0.f2) ∧ w7.cell? ⟨a8.block,a8.off + 3,none⟩ = some (.slice A5 k0.f3.length c5) ∧ w7.cell? ⟨a8.block,a8.off + 4,none⟩ = some (.int .u8 k1.f0) ∧ w7.cell? ⟨a8.block,a8.off + 4 + 1,none⟩ = some (.int .u64 k1.f1) ∧ w7.cell? ⟨a8.block,a8.off + 4 + 2,none⟩ = some (.string k1.f2) ∧ w7.cell? ⟨a8.block,a8.off + 4 + 3,none⟩ = some (.slice A6 k1.f3.length c6)) := (⟨ag hb lf.out.1,ag hb lf.out.2.1,ag hb lf.out.2.2.1,ag hb lf.out.2.2.2.1,ag hb lf.out.2.2.2.2.1,ag hb lf.out.2.2.2.2.2.1,ag hb lf.out.2.2.2.2.2.2.1,ag hb lf.out.2.2.2.2.2.2.2.1,ag hb lf.out.2.2.2.2.2.2.2.2.1,ag hb lf.out.2.2.2.2.2.2.2.2.2.1,ag hb lf.out.2.2.2.2.2.2.2.2.2.2⟩); clear hb ZN OC)
       | (go_at_call 48; have hz := HX6; refine (jE e0 u0 [c] _ HT0.out.1).mono ?_; rintro e1 AL ⟨rfl,hb⟩; have Mv := U.mk (aw HX6.out hb); have HV0 := U.mk (HT0.out.2.1.up hb); have lf : U (AL.cell? ⟨M,0,none⟩ = some (.iface 170 (.pointer (some ⟨L,0,none⟩))) ∧ AL.cell? ⟨M,1,none⟩ = some (.string (Bs (123 :: c :: te))) ∧ AL.cell? ⟨g5,3,none⟩ = some (.slice (some a8) ln c4) ∧ AL.cell? a8 = some (.int .u8 k0.f0) ∧ AL.cell? ⟨a8.block,a8.off + 1,none⟩ = some (.int .u64 k0.f1) ∧ AL.cell? ⟨a8.block,a8.off + 2,none⟩ = some (.string k0.f2) ∧ AL.cell? ⟨a8.block,a8.off + 3,none⟩ = some (.slice A5 k0.f3.length c5) ∧ AL.cell? ⟨a8.block,a8.off + 4,none⟩ = some (.int .u8 k1.f0) ∧ AL.cell? ⟨a8.block,a8.off + 4 + 1,none⟩ = some (.int .u64 k1.f1) ∧ AL.cell? ⟨a8.block,a8.off + 4 + 2,none⟩ = some (.string k1.f2) ∧ AL.cell? ⟨a8.block,a8.off + 4 + 3,none⟩ = some (.slice A6 k1.f3.length c6)) := (⟨ag hb da.out.1,ag hb da.out.2.1,ag hb da.out.2.2.1,ag hb da.out.2.2.2.1,ag hb da.out.2.2.2.2.1,ag hb da.out.2.2.2.2.2.1,ag hb da.out.2.2.2.2.2.2.1,ag hb da.out.2.2.2.2.2.2.2.1,ag hb da.out.2.2.2.2.2.2.2.2.1,ag hb da.out.2.2.2.2.2.2.2.2.2.1,ag hb da.out.2.2.2.2.2.2.2.2.2.2⟩); have da := lf; clear hb)
       | (go_at_call 49; refine (HD0.out A5 c5 _ (Kd.bD PK.out H5.out.2.2.2)).mono ?_; rintro e1 w6 ⟨e0,u0,S0,rfl,ZO,hS0,hb,OA⟩; have HX6 := U.mk hb; have HT0 := U.mk (And.intro ZO.ty.is (And.intro ZO (And.intro hS0 hb))); have BVK := U.mk (OA c hk rfl); have da : U (w6.cell? ⟨M,0,none⟩ = some (.iface 170 (.pointer (some ⟨L,0,none⟩))) ∧ w6.cell? ⟨M,1,none⟩ = some (.string (Bs (123 :: c :: te))) ∧ w6.cell? ⟨g5,3,none⟩ = some (.slice (some a8) ln c4) ∧ w6.cell? a8 = some (.int .u8 k0.f0) ∧ w6.cell? ⟨a8.block,a8.off + 1,none⟩ = some (.int .u64 k0.f1) ∧ w6.cell? ⟨a8.block,a8.off + 2,none⟩ = some (.string k0.f2) ∧ w6.cell? ⟨a8.block,a8.off + 3,none⟩ = some (.slice A5 k0.f3.length c5) ∧ w6.cell? ⟨a8.block,a8.off + 4,none⟩ = some (.int .u8 k1.f0) ∧ w6.cell? ⟨a8.block,a8.off + 4 + 1,none⟩ = some (.int .u64 k1.f1) ∧ w6.cell? ⟨a8.block,a8.off + 4 + 2,none⟩ = some (.string k1.f2) ∧ w6.cell? ⟨a8.block,a8.off + 4 + 3,none⟩ = some (.slice A6 k1.f3.length c6)) := (⟨ag hb AF.out.1,ag hb AF.out.2.1,ag hb AF.out.2.2.1,ag hb AF.out.2.2.2.1,ag hb AF.out.2.2.2.2.1,ag hb AF.out.2.2.2.2.2.1,ag hb AF.out.2.2.2.2.2.2.1,ag hb AF.out.2.2.2.2.2.2.2.1,ag hb AF.out.2.2.2.2.2.2.2.2.1,ag hb AF.out.2.2.2.2.2.2.2.2.2.1,ag hb AF.out.2.2.2.2.2.2.2.2.2.2⟩); clear hb ZO OA hS0)
       | (go_at_call 91; refine (Na c L (Bs [c]) (Bs te) _ _ _ e0 d1 u0 u1 BVK.out ks vs m kl vl (by omega) J2.out _ (H5.out.2.2.1.up Ly.out)).mono ?_; rintro e1 w9 ⟨rfl,Tk,hb,bX⟩;
           have OI := aQ Ly.out H5.out.1; have OL := aQ Ly.out H5.out.2.1; have ON := H5.out.2.2.1.up Ly.out;
           have Jy := (bX M (Array.getElem?_eq_some_iff.1 OI).1 (by omega) (fun e => Bg ON.k OI (by decide) e.symm) (fun e => Bg ON.v OI (by decide) e.symm)).trans OI;
           have hG9 := (bX g5 (Array.getElem?_eq_some_iff.1 OL).1 (by omega) (fun e => Bg ON.k OL (by decide) e.symm) (fun e => Bg ON.v OL (by decide) e.symm)).trans OL;
           have HFR := U.mk (And.intro bX hb); have HZ := U.mk (And.intro Tk (And.intro Jy ((H5.out.2.2.2.trans (aC Ly.out (by have := H5.out.2.2.2.size; omega))).trans (aC hb (by omega)))));
           have kk9 : U (w9.cell? ⟨M,0,none⟩ = some (.iface 170 (.pointer (some ⟨L,0,none⟩))) ∧ w9.cell? ⟨M,1,none⟩ = some (.string (Bs (123 :: c :: te))) ∧ w9.cell? ⟨g5,3,none⟩ = some (.slice (some a8) ln c4) ∧ w9.cell? a8 = some (.int .u8 k0.f0) ∧ w9.cell? ⟨a8.block,a8.off + 1,none⟩ = some (.int .u64 k0.f1) ∧ w9.cell? ⟨a8.block,a8.off + 2,none⟩ = some (.string k0.f2) ∧ w9.cell? ⟨a8.block,a8.off + 3,none⟩ = some (.slice A5 k0.f3.length c5) ∧ w9.cell? ⟨a8.block,a8.off + 4,none⟩ = some (.int .u8 k1.f0) ∧ w9.cell? ⟨a8.block,a8.off + 4 + 1,none⟩ = some (.int .u64 k1.f1) ∧ w9.cell? ⟨a8.block,a8.off + 4 + 2,none⟩ = some (.string k1.f2) ∧ w9.cell? ⟨a8.block,a8.off + 4 + 3,none⟩ = some (.slice A6 k1.f3.length c6)) := ⟨(cell_of_row w9 M 0 _ 86 (0,0) Jy).trans rfl,(cell_of_row w9 M 1 _ 86 (0,0) Jy).trans rfl,(cell_of_row w9 g5 3 _ 65 (0,0) hG9).trans rfl,(hb.cell (p := a8) (by show a8.block < L; omega)).trans (Bm.out.2.2.2.1),(hb.cell (p := ⟨a8.block,a8.off + 1,none⟩) (by show a8.block < L; omega)).trans (Bm.out.2.2.2.2.1),(hb.cell (p := ⟨a8.block,a8.off + 2,none⟩) (by show a8.block < L; omega)).trans (Bm.out.2.2.2.2.2.1),(hb.cell (p := ⟨a8.block,a8.off + 3,none⟩) (by show a8.block < L; omega)).trans (Bm.out.2.2.2.2.2.2.1),(hb.cell (p := ⟨a8.block,a8.off + 4,none⟩) (by show a8.block < L; omega)).trans (Bm.out.2.2.2.2.2.2.2.1),(hb.cell (p := ⟨a8.block,a8.off + 4 + 1,none⟩) (by show a8.block < L; omega)).trans (Bm.out.2.2.2.2.2.2.2.2.1),(hb.cell (p := ⟨a8.block,a8.off + 4 + 2,none⟩) (by show a8.block < L; omega)).trans (Bm.out.2.2.2.2.2.2.2.2.2.1),(hb.cell (p := ⟨a8.block,a8.off + 4 + 3,none⟩) (by show a8.block < L; omega)).trans (Bm.out.2.2.2.2.2.2.2.2.2.2)⟩; clear Tk hb bX OI OL ON Jy hG9))
    obtain ⟨Tk,Jy,hB9⟩ := HZ.out
    obtain ⟨Gi,vs', n', Bl,C8,hn', Zr,hup,jn,xz,hD'⟩ := Tk
    have hW4 : wr.heap.size ≤ W4.drew.heap.size := PI.out.2.2
    have Zz : ∀ (S : Nat → Prop),(∀ q,S q → W4.drew.heap.size ≤ q) → ∀ q,S q → w.heap.size ≤ q ∧ q ≠ L ∧ ks.ownBlock ≠ some q ∧ vs.ownBlock ≠ some q := fun S hS q hq => by
     have h1 := hS q hq
     have h2 := HOL.out.1
     have h3 := PI.out.2.1
     exact ⟨by omega,by omega,fun e => by have := HOL.out.2.1 q e; omega,fun e => by have := HOL.out.2.2 q e; omega⟩
    have hkt : (KK.take (i + 1)).sum = (KK.take i).sum + KK.getD i 0 := by
     have hil : i < KK.length := by rw [Ug.out.1]; exact hlt
     rw [zR KK i hil,List.getD_eq_getElem?_getD,List.getElem?_eq_getElem hil]; rfl
    obtain ⟨Ks', Rb⟩ := DE.step (PI.out.1.up Ly.out) (w9 := w9) HFR.out.2.size (fun q h1 h2 h3 h4 => HFR.out.1 q h1 h2 h3 h4) (HV0.out.up adN.out) HV1.out (Zz S0 HT0.out.2.2.1) (Zz S1 (fun q hq => Nat.le_trans Mv.out.size (Lz.out.2.2.1 q hq))) jn xz hup (by simpa using H5.out.2.2.1.k.1) (by simpa using H5.out.2.2.1.v.1) afW.out
    rw [← hkt] at Rb
    have af0 := U.mk Rb
    clear Rb hkt Zz hup jn xz
    have HR := U.mk (And.intro Jy (And.intro hB9 (And.intro Zr hD')))
    clear Jy hB9 Zr hD' HZ
    go_wp2
    go_roundg (n - (i + 1))
    case measure => have := fP.out; omega
    case rel => exact ⟨i + 1,Gi,vs', n', Bl,C8,by first | rfl | simp,hlt,by omega,⟨rfl,HR.out.2.1,HR.out.1,HR.out.2.2.2,HR.out.2.2.1,Ks', af0.out⟩⟩
  · have hd : decide ((i : Int) < (n : Int)) = false := by simpa using hlt
    have m0 : wr.cell? ⟨M,0,none⟩ = some (.iface 170 (.pointer (some ⟨L,0,none⟩))) := (cell_of_row wr M 0 _ 86 (0,0) HI.out.2.2.1).trans rfl
    have m1 : wr.cell? ⟨M,1,none⟩ = some (.string (Bs (123 :: c :: te))) := (cell_of_row wr M 1 _ 86 (0,0) HI.out.2.2.1).trans rfl
    obtain ⟨Ks,Le⟩ := HI.out.2.2.2.2.2
    obtain rfl : i = n := by omega
    have I1 : (KK.take i).sum = KK.sum := by rw [List.take_of_length_le (by rw [Ug.out.1]; exact Nat.le_refl _)]
    rw [I1] at Le
    obtain ⟨Sx,hT,hS⟩ := U3 wr w.heap.size L ks vs m kl vl c hk te Ks d0 KK.sum I2 HI.out.2.2.2.1 (by omega) (by omega) Ug.out.2.1 Le (fun k hk2 => adm Ug.out.2.2 (HI.out.2.2.2.2.1 k hk2))
    have HT := U.mk hT
    have HSX := U.mk hS
    clear hT hS Le
    go_wp2_with fail
    refine (IZ 170 _ _ _).mono ?_
    rintro e1 w9 ⟨rfl,hb⟩
    have HT9 := U.mk (HT.out.up hb)
    have Fc := U.mk (aw HI.out.2.1 hb)
    clear hb
    go_wp2_with fail
    go_ret
    refine ⟨_,_,Sx,rfl,HT9.out,HSX.out,Fc.out,?_⟩
    rintro q hq e
    simp at e
theorem WI : ∀ n : Fin 256,cj (UInt8.ofNat n.val) = true → ay.f 20 (Bs [UInt8.ofNat n.val]) = some 1 ∨ ay.f 20 (Bs [UInt8.ofNat n.val]) = some 2 ∨ ay.f 20 (Bs [UInt8.ofNat n.val]) = some 4 ∨ ay.f 20 (Bs [UInt8.ofNat n.val]) = some 8 := by decide +kernel
theorem ab2 (c : UInt8) (h : cj c = true) : ∃ al : Nat,(al = 1 ∨ al = 2 ∨ al = 4 ∨ al = 8) ∧ ay.f 20 (Bs [c]) = some (al : Int) := by
 have h1 := WI ⟨c.toNat,c.toNat_lt⟩
 simp only [UInt8.ofNat_toNat] at h1
 rcases h1 h with h | h | h | h
 · exact ⟨1,by omega,h⟩
 · exact ⟨2,by omega,h⟩
 · exact ⟨4,by omega,h⟩
 · exact ⟨8,by omega,h⟩
theorem afR {l t : List UInt8} (hz : Z 32 32 32 l t) : ∃ al : Nat,(al = 1 ∨ al = 2 ∨ al = 4 ∨ al = 8) ∧ ∀ W,Calls Tryz.prog 60 #[.string (Bs t)] W fun e w' => e = .returned (.int .i64 (al : Int)) ∧ Below W.heap.size W w' := by
 obtain ⟨n,hz⟩ := hz
 cases n with
 | zero => exact hz.elim
 | succ n=>
   obtain ⟨_,_,_,h⟩ := hz
   rcases h with ⟨c,hc,rfl,rfl⟩ | ⟨x,y,_,rfl,rfl⟩ | ⟨c,x,y,_,_,rfl,rfl⟩ | ⟨zs,_,_,rfl,rfl⟩
   · obtain ⟨al,h1,h2⟩ := ab2 c hc
     refine ⟨al,h1,fun W => (ay.calls 20 _ _ W h2).mono ?_⟩
     rintro e w' ⟨rfl,nd,rfl⟩
     exact ⟨rfl,ai (Below.refl _ _) nd⟩
   · exact ⟨4,by omega,fun W => TZ y W⟩
   · exact ⟨4,by omega,fun W => Pr _ W⟩
   · exact ⟨8,by omega,fun W => T0 _ W⟩
theorem DV.more {x : cY} {t : List UInt8} {d d2 K K2 : Nat} (h : DV x t d K) (hd : d ≤ d2) (hK : K ≤ K2) : DV x t d2 K2 := fun A c3 w hC=>
 (h A c3 w hC).mono fun e w' ⟨dT,u,S,h1,h2,h3⟩ => ⟨dT,u,S,h1,h2.more hd hK,h3⟩
def VE : Nat → cY → List UInt8 → List UInt8 → Nat → Prop
 | 0,_,_,_,_ => False
 | n + 1,x,l,t,K => x.f3.length ≤ 1000 ∧ l.length ≤ 255 ∧ t.length ≤ 255 ∧ K ≤ 67000000 ∧
   ((∃ c,dy c = true ∧ x.f0 = (c.toNat : Int) ∧ l = [c] ∧ t = [c] ∧ PC x c ∧ x.f2.size + 40 ≤ K) ∨
    (x.f0 = 118 ∧ ∃ y l' t' K', x.f3 = [y] ∧ VE n y l' t' K' ∧ Z 32 32 32 l' t' ∧ l = [118] ∧ t = [118] ∧ K' + 400 ≤ K) ∨
    (x.f0 = 40 ∧ ∃ (zs : List (List UInt8 × List UInt8)) (Ks : List Nat),zs.length = x.f3.length ∧ Ks.length = x.f3.length ∧ (∀ z ∈ zs,Z 32 32 32 z.1 z.2) ∧ (∀ (j : Nat) y z,x.f3[j]? = some y → zs[j]? = some z → VE n y z.1 z.2 (Ks.getD j 0)) ∧ l = 40 :: ((zs.map Prod.fst).flatten ++ [41]) ∧ t = 40 :: ((zs.map Prod.snd).flatten ++ [41]) ∧ Ks.sum + 20 ≤ K) ∨
    (x.f0 = 97 ∧ ∃ (l0 : UInt8) (ls te : List UInt8) (Ks : List Nat),x.f2 = Bs (l0 :: ls) ∧ l0 ≠ 123 ∧ Z 32 32 32 (l0 :: ls) te ∧ Ks.length = x.f3.length ∧ (∀ (j : Nat) y,x.f3[j]? = some y → VE n y (l0 :: ls) te (Ks.getD j 0)) ∧ l = 97 :: l0 :: ls ∧ t = 91 :: te ∧ Ks.sum + 60 ≤ K) ∨
    (x.f0 = 97 ∧ ∃ (c : UInt8) (ls te : List UInt8) (KK : List Nat),x.f2 = Bs (123 :: c :: (ls ++ [125])) ∧ fJ c = true ∧ c ≠ 100 ∧ Z 32 32 32 ls te ∧ KK.length = x.f3.length ∧ (∀ (j : Nat) y,x.f3[j]? = some y → ∃ k0 k1 rest Ka Kb,y.f3 = k0 :: k1 :: rest ∧ VE n k0 [c] [c] Ka ∧ VE n k1 ls te Kb ∧ Ka + Kb + 8 ≤ KK.getD j 0) ∧ l = 97 :: 123 :: c :: (ls ++ [125]) ∧ t = 123 :: c :: te ∧ KK.sum + 60 ≤ K))
theorem O1 : ∀ (n : Nat) (x : cY) (l t : List UInt8) (K : Nat),VE n x l t K → DV x t (2 * n) K
 | 0,_,_,_,_,h => h.elim
 | n + 1,x,l,t,K,⟨hn,hl,ht,hK,h⟩ => by
   have ih := O1 n
   rcases h with ⟨c,hc,h0,rfl,rfl,hL,hk⟩ | ⟨h0,y,l', t', K', h3,hy,hz,rfl,rfl,hk⟩ | ⟨h0,zs,Ks,Ee,cf,gr,Gk,rfl,rfl,hk⟩ | ⟨h0,l0,ls,te,Ks,h2,hne,hz,cf,dD,rfl,rfl,hk⟩ | ⟨h0,c,ls,te,KK,h2,Dg,FW,hz,cf,he,rfl,rfl,hk⟩
   · exact (U6 x c hc h0 hL).more (by omega) hk
   · have hl2 : l'.length ≤ 255 := by
      cases n with
      | zero => exact hy.elim
      | succ n => exact hy.2.1
     exact (aax x y l' t' h0 h3 hz hl2 (ih y l' t' K' hy)).more (by omega) hk
   · simp only [List.length_cons,List.length_append,List.length_nil] at ht
     refine (aay x zs Ks (2 * n) h0 Ee cf gr (by omega) hn fun j y hy => ?_).more (by omega) hk
     have hj : j < zs.length := by rw [Ee]; exact (List.getElem?_eq_some_iff.1 hy).1
     exact ⟨zs[j],List.getElem?_eq_getElem hj,ih y _ _ _ (Gk j y zs[j] hy (List.getElem?_eq_getElem hj))⟩
   · simp only [List.length_cons] at hl ht
     obtain ⟨al,gM,AE⟩ := afR hz
     exact (U5 x l0 ls te h0 h2 hne (aaL hz (by omega) (by omega) (by omega) (by rw [List.length_cons]; omega)) (by omega) hn Ks (2 * n) al gM AE cf (by omega) fun j y hy => ih y _ _ _ (dD j y hy)).more (by omega) hk
   · simp only [List.length_cons,List.length_append,List.length_nil] at hl ht
     refine (U7 x c (c :: (ls ++ [125])) te h0 h2 Dg (by simp only [List.length_cons,List.length_append,List.length_nil]; omega) (Ll c ls te (FC Dg) (by omega) (by omega) (aaL hz (by omega) (by omega) (by omega) (by omega))) (by omega) hn FW KK (2 * n) cf (by omega) fun j y hy => ?_).more (by omega) hk
     obtain ⟨k0,k1,rest,Ka,Kb,h3,Ok,hv1,Dl⟩ := he j y hy
     exact ⟨k0,k1,rest,Ka,Kb,h3,ih k0 _ _ _ Ok,ih k1 _ _ _ hv1,Dl⟩
attribute [-go_sem] Builtin.append_
theorem abY {W6 : World} (base : Nat) (v : Value) (i : Nat) (vs : List Value) (hO : W6.ownsRow base 20 1 v i vs) (cN : base ≤ W6.heap.size) (hi : i ≤ 100000) (d : TypeId) (u : Value) :
 ∃ A1 c1 w7,(Builtin.append_ #[61,61] 61 #[v,.slice (some ⟨W6.heap.size,0,none⟩) 1 1]).run Tryz.prog (W6.alloc (.cells #[.iface d u] 20)) = .ok (.slice A1 (i + 1) c1) w7 ∧ w7.ownsRow base 20 1 (.slice A1 (i + 1) c1) (i + 1) (vs ++ [.iface d u]) ∧ Below base W6 w7 ∧ (∀ k,k < W6.heap.size → v.ownBlock ≠ some k → w7.heap[k]? = W6.heap[k]?) ∧ ((Value.slice A1 (i + 1) c1).ownBlock = v.ownBlock ∨ ∃ b,(Value.slice A1 (i + 1) c1).ownBlock = some b ∧ W6.heap.size ≤ b) := by
 obtain ⟨i0,Gy,il⟩ := Option.map_eq_some_iff.1 IY
 simp only [Prod.mk.injEq] at il
 obtain ⟨v1,w7,hr,hown,hg,_,cM⟩ := run_append_own_at (P := Tryz.prog) (W6.alloc (.cells #[.iface d u] 20)) base 61 61 20 i0 .nilIface 1 16 Tryz.underlying61 Gy il.1 il.2.1 il.2.2 rfl (by omega) v i _ (hO.alloc _) ⟨W6.heap.size,0,none⟩ 1 1 [.iface d u] rfl
  (World.news_of_block (cs := #[.iface d u]) (t := 20) (fr := (0,0)) (heap_alloc_new W6 _)) (by intro x hx; rw [List.mem_singleton.1 hx]; rfl) (by unfold maxLen; omega) (by omega) (by simp; omega)
 obtain ⟨A1,c1,rfl⟩ := dX hown
 have hG := World.grownBy.trans (World.grownBy_alloc W6 (.cells #[.iface d u] 20) v.ownBlock) hg
 have Tn : ∀ k,v.ownBlock = some k → base ≤ k := fun k hk => dY hO k hk
 refine ⟨A1,c1,w7,hr,hown,⟨hG.os,hG.tape,hG.output,hG.size,fun k hk => hG.block k (by omega) (fun h => by have := Tn k h.symm; omega)⟩,fun k hk hne => hG.block k hk (fun e => hne e.symm),?_⟩
 rcases cM with cM | cM
 · exact .inl cM
 · exact .inr ⟨_,cM,by simp⟩
theorem Rk (X : List cY) (ts : List (List UInt8 × Nat)) (d0 : Nat) (hts : ts.length = X.length) (hn : X.length ≤ 1000) (ih : ∀ (j : Nat) y,X[j]? = some y → ∃ t,ts[j]? = some t ∧ DV y t.1 d0 t.2) (A : Option Addr) (c3 : Nat) (w : World) (hC : Kd.C kj w A X.length X) :
 Calls Tryz.prog 34 #[.slice A X.length c3] w fun e w' => ∃ A' c' us,e = .returned (.slice A' X.length c') ∧ us.length = X.length ∧ Vals w' A' us ∧ (∀ (j : Nat) u t,us[j]? = some u → ts[j]? = some t → ∃ S,EV w' S u t.1 d0 t.2 ∧ (∃ dT q,u = .iface dT q) ∧ ∀ k,S k → w.heap.size ≤ k) ∧ Below w.heap.size w w' := by
 obtain ⟨n,fL⟩ : ∃ n,X.length = n := ⟨_,rfl⟩
 have HC := U.mk hC
 rw [fL] at hn hts ⊢
 have IH := U.mk ih
 have ix := U.mk fL
 clear ih hC fL
 go_enter Tryz.func34,Tryz.ntmps34
 go_wp2_with fail
 go_loopg [3,8] n (fun kq v3 v8 wr => ∃ (i : Nat) (v : Value) (vs : List Value),v = v3 ∧ v8 = .int .i64 (i : Int) ∧ i ≤ n ∧ U (kq = n - i ∧ Below w.heap.size w wr ∧ wr.ownsRow w.heap.size 20 1 v i vs ∧ ∀ (j : Nat) u,vs[j]? = some u → ∃ t S,ts[j]? = some t ∧ EV wr S u t.1 d0 t.2 ∧ ((∃ dT q,u = .iface dT q) ∧ ∀ k,S k → w.heap.size ≤ k) ∧ ∀ k,S k → v.ownBlock ≠ some k))
 case atStart => exact ⟨0,.slice none 0 0,[],rfl,rfl,by omega,⟨rfl,Below.refl _ _,World.ownsRow_nil _ _ _ _,fun j u h => by simp at h⟩⟩
 case round=>
  obtain ⟨i,v,vs,rfl,rfl,hi,HI⟩ := hrel
  have fP := U.mk HI.out.1
  by_cases hlt : i < n
  · have hd : decide ((i : Int) < (n : Int)) = true := by simpa using hlt
    have iI : IntKind.i64.wrap ((i : Int) + 1) = ((i + 1 : Nat) : Int) := by rw [IntKind.wrap_i64]; omega
    have j4 : i < X.length := by rw [ix.out]; exact hlt
    obtain ⟨ad,A3,c4,rfl,q0,q1,q2,q3,lC,bN⟩ := vG HC.out (i : Int) (by omega) (by omega)
    have lB : eP X (i : Int) = X[i] := by
     unfold eP
     rw [Int.toNat_natCast,List.getD_eq_getElem?_getD,List.getElem?_eq_getElem j4]
     rfl
    obtain ⟨y,hy⟩ : ∃ y,X[i] = y := ⟨_,rfl⟩
    rw [lB,hy] at q0 q1 q2 q3 lC bN
    obtain ⟨t,Gn,kU⟩ := IH.out i y (by rw [List.getElem?_eq_getElem j4,hy])
    have GY := U.mk kU
    have HTJ := U.mk Gn
    have lb := U.mk bN
    replace q0 := ag HI.out.2.1 q0
    replace q1 := ag HI.out.2.1 q1
    replace q2 := ag HI.out.2.1 q2
    replace q3 := ag HI.out.2.1 q3
    clear lB kU bN hy j4 Gn
    simp only [Int.toNat_natCast] at q0 q1 q2 q3
    go_wp2_with fail
    have bZ := ab (Below.refl wr.heap.size wr) (.cells #[.int .u8 y.f0,.int .u64 y.f1,.string y.f2,.slice A3 y.f3.length c4] 65)
    have BR := U.mk (HI.out.2.2.1.alloc (.cells #[.int .u8 y.f0,.int .u64 y.f1,.string y.f2,.slice A3 y.f3.length c4] 65))
    have Fe := U.mk (aw HI.out.2.1 bZ)
    have jo := U.mk bZ
    have PE := U.mk HI.out.2.2.2
    generalize wr.alloc (.cells #[.int .u8 y.f0,.int .u64 y.f1,.string y.f2,.slice A3 y.f3.length c4] 65) = W5 at *
    refine (GY.out A3 c4 _ (Kd.bD lb.out Fe.out)).mono ?_
    rintro e1 w6 ⟨d,u,Sx,rfl,kS,kT,hb,_⟩
    have AD := aw Fe.out hb
    obtain ⟨A1,c1,w7,hr,hown,Bz,xA,j7⟩ := abY w.heap.size v i vs (iU BR.out hb) AD.size (by omega) d u
    have HN := U.mk (And.intro kS (And.intro kT (And.intro hb (And.intro xA (And.intro j7 Bz.size)))))
    have JZ := U.mk hown
    have zQ := U.mk (AD.trans Bz)
    clear kS kT hb xA j7 hown Bz AD bZ
    go_wp2_with fail
    go_roundg (n - (i + 1))
    case measure => have := fP.out; omega
    case rel=>
     refine ⟨i + 1,_,vs ++ [.iface d u],rfl,by first | rfl | simp,hlt,⟨rfl,zQ.out,JZ.out,?_⟩⟩
     obtain ⟨kS,kT,hb,xA,j7,Om⟩ := HN.out
     have iJ : vs.length = i := by simpa using BR.out.1
     have mv : ∀ (S : Nat → Prop) (q : Value) (t : List UInt8) (d1 K1 : Nat),EV w6 S q t d1 K1 → (∀ k,S k → v.ownBlock ≠ some k) → EV w7 S q t d1 K1 ∧ ∀ k,S k → (Value.slice A1 (i + 1) c1).ownBlock ≠ some k := by
      intro S q t d1 K1 h hS
      refine ⟨h.move Om fun k hk => xA k (h.ty.1 k hk) (hS k hk),fun k hk e => ?_⟩
      rcases j7 with cM | ⟨b,hb2,hle⟩
      · exact hS k hk (cM ▸ e)
      · rw [hb2] at e
        have := h.ty.1 k hk
        injection e with e
        omega
     intro j q hq
     by_cases hj : j < vs.length
     · rw [List.getElem?_append_left hj] at hq
       obtain ⟨t2,S,h1,h2,xC,h3⟩ := PE.out j q hq
       have h4 := mv S q t2.1 _ _ ((h2.up jo.out).up hb) h3
       exact ⟨t2,S,h1,h4.1,xC,h4.2⟩
     · have Gx : j = vs.length := by
        have := (List.getElem?_eq_some_iff.1 hq).1
        simp at this
        omega
       subst Gx
       rw [List.getElem?_append_right (Nat.le_refl _)] at hq
       obtain rfl : q = .iface d u := by simpa using hq.symm
       have h4 := mv Sx (.iface d u) t.1 _ _ kS fun k hk e => by have h5 := gq BR.out k e; have h6 := kT k hk; omega
       exact ⟨t,Sx,by rw [iJ]; exact HTJ.out,h4.1,⟨⟨_,_,rfl⟩,fun k hk => Nat.le_trans Fe.out.size (kT k hk)⟩,h4.2⟩
  · have hd : decide ((i : Int) < (n : Int)) = false := by simpa using hlt
    have vz : i = n := by omega
    subst vz
    obtain ⟨A9,c9,rfl⟩ := dX HI.out.2.2.1
    go_wp2_with fail
    go_ret
    refine ⟨A9,c9,vs,rfl,by simpa using HI.out.2.2.1.1,?_,?_,HI.out.2.1⟩
    · intro j v hv
      obtain ⟨g,e,_,hc⟩ := hJ HI.out.2.2.1 j v hv
      exact ⟨_,e,by rwa [show (⟨g,0,none⟩ : Addr).add j = ⟨g,j,none⟩ by unfold Addr.add; split <;> simp_all]⟩
    · intro j u t hu ht
      obtain ⟨t', S,h1,h2,xC,_⟩ := HI.out.2.2.2 j u hu
      obtain rfl := Option.some.inj (h1.symm.trans ht)
      exact ⟨S,h2,xC⟩
end Go.Proofs.YtkdebhgccpfkiaaGreatDoor.au
namespace Go.Proofs.YtkdebhgccpfkiaaGreatDoor.au
open Go.RowKit Go.Proofs.aa.az Go.Proofs.aa.aM Go.Proofs.aa.aU
attribute [local go_sem] ba bh
set_option linter.unusedVariables false
set_option linter.unusedSimpArgs false
theorem Rh (p q : Addr) (w : World) : CallsD Tryz.prog 30 #[.pointer (some p),.pointer (some q)] .returning w fun e u' w' => e = .returned (.tuple #[]) ∧ u' = .returning ∧ w' = w := by
 refine callsD_of_wpS Tryz.func30 rfl fun c₀ cs hu => ?_
 apply wpS_seq
 apply wpS_region
 simp [wpOpsS,go_sem,recoverD,hu,Tryz.ntmps30,Exit.thenS]
 refine wpS_cond (t := false) (by simp [Act.eval,Array.replicate]) ?_
 simp only [Bool.false_eq_true,if_false]
 refine wpS_of_wp (wp_skip ?_)
 cases c₀
 simp_all [bodyPostS,results,Tryz.results30]
theorem Rg (p : Addr) (w : World) : CallsD Tryz.prog 46 #[.pointer (some p)] .returning w fun e u' w' => e = .returned (.tuple #[]) ∧ u' = .returning ∧ w' = w := by
 refine callsD_of_wpS Tryz.func46 rfl fun c₀ cs hu => ?_
 apply wpS_seq
 apply wpS_region
 simp [wpOpsS,go_sem,recoverD,hu,Tryz.ntmps46,Exit.thenS]
 apply wpS_seq
 apply wpS_seq
 apply wpS_region
 simp [wpOpsS,go_sem,Exit.thenS]
 refine wpS_cond (t := true) (by simp [Act.eval,Array.replicate]) ?_
 simp only [if_true]
 refine wpS_of_wp (wp_ret ?_)
 simp only [Exit.thenS]
 cases c₀
 simp_all [bodyPostS,results,Tryz.results46]
theorem en1 (e cap : Nat) (ad : Addr) (dT : TypeId) (u : Value) (S : ByteArray) (PW : World → Prop) (w : World) (hc : w.cell? ad = some (.iface dT u))
 (hZ : ∀ W,Below w.heap.size w W → Calls Tryz.prog 48 #[.iface dT u] W fun e w' => e = .returned (.agg #[.iface dT u,.string S]) ∧ Below W.heap.size W w')
 (hE : ∀ W,Below w.heap.size w W → W.heap[w.heap.size]? = some (.cells #[.nilIface] 38 (0,0)) → Calls Tryz.prog 47 #[.pointer (some ⟨e,0,none⟩),.agg #[.iface dT u,.string S],.int .i64 0] W fun e' w' => e' = .returned (.tuple #[]) ∧ w'.heap[w.heap.size]? = some (.cells #[.nilIface] 38 (0,0)) ∧ ∀ v,PW (w'.setCell ⟨w.heap.size,0,none⟩ v)) :
 Calls Tryz.prog 33 #[.pointer (some ⟨e,0,none⟩),.slice (some ad) 1 cap] w fun e' w' => e' = .returned (.nilIface) ∧ PW w' := by
 have jO : ∀ (fn : Fn) (first cap : Array Value) (w : World),(Instr.makeFunc fn first cap).run Tryz.prog w = .ok (.func fn first cap) w := fun _ _ _ _ => rfl
 have h0 : ad.add 0 = ad := by unfold Addr.add; split <;> simp_all
 have kR := ab (Below.refl w.heap.size w) (.cells #[.nilIface] 38)
 have Ez := ag kR hc
 have hh1 := heap_alloc_new w (.cells #[.nilIface] 38)
 have HZ := U.mk hZ
 have HE := U.mk hE
 have HH1 := U.mk hh1
 have G0 := U.mk kR
 clear hZ hE hh1 hc kR
 go_enter_defers Tryz.func33,Tryz.ntmps33
 go_wp2_with fail
 refine wp_loop_rounds 2 ?_
 rw [rounds_succ]
 generalize hR : Code.rounds _ _ _ 1 = R1
 go_wp2_with (first
  | (go_at_call 48; refine (HZ.out _ G0.out).mono ?_; rintro e1 w2 ⟨rfl,hb⟩; have cO := U.mk (aw G0.out hb); have HH2 := U.mk (aQ hb HH1.out); clear hb)
  | (go_at_call 47; refine (HE.out _ cO.out HH2.out).mono ?_; rintro e1 w3 ⟨rfl,h3,hp⟩; have c3 : w3.cell? ⟨w.heap.size,0,none⟩ = some .nilIface := (cell_of_row w3 w.heap.size 0 _ 38 (0,0) h3).trans rfl; have f3 := frozen_of_row w3 w.heap.size 0 _ 38 h3; have H3 := U.mk h3; have HP := U.mk hp; clear h3 hp))
 subst hR
 rw [rounds_succ]
 generalize hR : Code.rounds _ _ _ 0 = R1
 go_wp2
 have D : (w3.setCell ⟨w.heap.size,0,none⟩ .nilIface).cell? ⟨w.heap.size,0,none⟩ = some .nilIface := World.cell?_setCell_same _ _ _ c3
 have HPW := HP.out .nilIface
 clear c3 f3
 refine leaves_cons (f := 46) (args := #[.pointer (some ⟨w.heap.size,0,none⟩)]) (by simp) (by simp [go_sem]) ?_
 refine (Rg _ _).mono ?_
 rintro e u' w'' ⟨rfl,rfl,hw⟩
 rw [← hw] at D HPW
 simp [Leaves,settle,results,Tryz.results33,go_sem,D]
 exact HPW
open Go.Proofs.YtkdebhgccpfkiaaGreatDoor.fD Go.Proofs.YtkdebhgccpfkiaaGreatDoor.fO Go.Proofs.YtkdebhgccpfkiaaGreatDoor.gw
theorem GL (t : Bool) (w : World) : Calls Tryz.prog 32 #[.bool t] w fun e w' => e = .returned (if t then .iface 81 (.agg #[]) else .iface 82 (.agg #[])) ∧ w' = w := by
 cases t
 all_goals
  go_enter Tryz.func32,Tryz.ntmps32
  go_wp2
  go_ret
  exact ⟨rfl,rfl⟩
theorem aaU {w w4 : World} {r : ByteArray} (hc0 : w4.cell? ⟨w.heap.size,0,none⟩ = some (.string ⟨#[]⟩)) (Ez : w4.cell? ⟨w.heap.size + 1,0,none⟩ = some .nilIface) (hB : Below w.heap.size w w4) :
 ((w4.setCell ⟨w.heap.size,0,none⟩ (.string r)).setCell ⟨w.heap.size + 1,0,none⟩ .nilIface).cell? ⟨w.heap.size,0,none⟩ = some (.string r) ∧ ((w4.setCell ⟨w.heap.size,0,none⟩ (.string r)).setCell ⟨w.heap.size + 1,0,none⟩ .nilIface).cell? ⟨w.heap.size + 1,0,none⟩ = some .nilIface ∧ Below w.heap.size w ((w4.setCell ⟨w.heap.size,0,none⟩ (.string r)).setCell ⟨w.heap.size + 1,0,none⟩ .nilIface) := by
 refine ⟨?_,?_,(hB.setCell (by show w.heap.size ≤ w.heap.size; omega) _).setCell (by show w.heap.size ≤ w.heap.size + 1; omega) _⟩
 · rw [World.cell?_setCell_other (h := by intro e; injection e with e; omega)]
   exact World.cell?_setCell_same _ _ _ hc0
 · exact World.cell?_setCell_same _ _ _ ((World.cell?_setCell_other _ _ _ _ (by intro e; injection e with e; omega)).trans Ez)
theorem adz (ad : Addr) : ad.add 0 = ad := by unfold Addr.add; split <;> simp_all
theorem acO (big : Bool) : ∃ ord,iP ord ∧ ∀ W,Calls Tryz.prog 32 #[.bool big] W fun e w' => e = .returned ord ∧ w' = W := by
 cases big
 · exact ⟨_,.inr rfl,fun W => GL false W⟩
 · exact ⟨_,.inl rfl,fun W => GL true W⟩
theorem ac6 (dT : TypeId) (u : Value) (t : List UInt8) (d K : Nat) (S : Nat → Prop) (B e b : Nat) (ord : Value) (w0 W4 W : World) (hT : Lib.Utf8Tabs 3 4 w0) (Z0 : Below w0.heap.size w0 W4) (h5 : 5 ≤ w0.heap.size) (xF : EV W4 S (.iface dT u) t d K) (hd : d ≤ 64) (hK : K ≤ 67000000) (ho : iP ord)
 (hB : B = w0.heap.size) (hBe : B ≤ e) (hBb : B ≤ b) (heb : e ≠ b) (hS : ∀ k,S k → e < k ∧ b < k) (m3 : W4.heap[e]? = some (.cells #[.iface 56 (.pointer (some ⟨b,0,none⟩)),.slice none 0 0,ord,.int .i64 0] 79 (0,0))) (m2 : W4.heap[b]? = some (.cells #[.slice none 0 0,.int .i64 0,.int .i8 0] 53 (0,0)))
 (hb : Below W4.heap.size W4 W) (hh : W.heap[W4.heap.size]? = some (.cells #[.nilIface] 38 (0,0))) :
 Calls Tryz.prog 47 #[.pointer (some ⟨e,0,none⟩),.agg #[.iface dT u,.string (Bs t)],.int .i64 0] W fun e' w' => e' = .returned (.tuple #[]) ∧ w'.heap[W4.heap.size]? = some (.cells #[.nilIface] 38 (0,0)) ∧ ∀ v,(∃ r m,Bf (w'.setCell ⟨W4.heap.size,0,none⟩ v) b r m) ∧ Fr W4 (w'.setCell ⟨W4.heap.size,0,none⟩ v) (fun k => k = e ∨ k = b) := by
 have he4 := (Array.getElem?_eq_some_iff.1 m3).1
 have zL := (Array.getElem?_eq_some_iff.1 m2).1
 have hWl := (Array.getElem?_eq_some_iff.1 hh).1
 have hs4 := Z0.size
 have hT4 : Lib.Utf8Tabs 3 4 W := zr (zr hT (Fr.iW Z0 (fun _ => False)) (fun k hk => hk.elim)) (Fr.iW hb (fun _ => False)) (fun k hk => hk.elim)
 have m3' : W4.heap[e]? = some (.cells #[.iface 56 (.pointer (some ⟨b,0,none⟩)),.slice none 0 0,ord,.int .i64 ((0 : Nat) : Int)] 79 (0,0)) := m3
 have hEN : EN W B e b none 0 0 ord := ⟨aQ hb m3', .inl ⟨rfl,rfl,0,aQ hb m2⟩,heb,hBe,hBb,fun g hg => (by cases hg),by omega,by omega,by omega⟩
 refine (xF.en W (fun k hk => hb.block k (xF.ty.1 k hk)) B e b none 0 0 ord 0 (fun k hk => ⟨by have := xF.ty.1 k hk; omega,fun hx => ?_⟩) hEN ho hT4 (by omega) (by omega) (by omega) (by omega) (by omega)).mono ?_
 · have := hS k hk
   rcases hx with hx | hx | hx
   · omega
   · omega
   · cases hx
 · rintro e' w' ⟨rfl,r', p,hN,hF,hR,hp⟩
   have zG : ∀ k,k ≠ e → k ≠ b → ¬ EX e b none k := fun k h1 h2 hx => by
    rcases hx with hx | hx | hx
    · exact h1 hx
    · exact h2 hx
    · cases hx
   refine ⟨rfl,(hF.keep _ hWl (zG _ (by omega) (by omega))).trans hh,fun v => ⟨⟨r', 0 + p,hN.bf.move (Below.heap_setCell w' ⟨W4.heap.size,0,none⟩ v b (by show b ≠ W4.heap.size; omega)) (fun g hg => Below.heap_setCell w' ⟨W4.heap.size,0,none⟩ v g ?_)⟩,?_⟩⟩
   · show g ≠ W4.heap.size
     rcases hR with h1 | ⟨g', h1,h2⟩
     · rw [h1] at hg; cases hg
     · rw [h1] at hg
       have := Option.some.inj hg
       omega
   · have OM : Fr W4 w' (fun k => k = e ∨ k = b) := (Fr.iW hb (fun k => k = e ∨ k = b)).trans hF (fun k _ hx => by
      rcases hx with hx | hx | hx
      · exact .inl hx
      · exact .inr hx
      · cases hx)
     exact ⟨OM.os,OM.tape,OM.output,by rw [World.size_setCell]; exact OM.size,fun k hk hx => (Below.heap_setCell w' ⟨W4.heap.size,0,none⟩ v k (by show k ≠ W4.heap.size; omega)).trans (OM.keep k hk hx)⟩
theorem de1 (X : cY) (t : List UInt8) (d K : Nat) (kU : DV X t d K) (hd : d ≤ 64) (hK : K ≤ 67000000) (big : Bool) (A : Option Addr) (c3 : Nat) (w : World) (hT : Lib.Utf8Tabs 3 4 w) (h5 : 5 ≤ w.heap.size) (hC : Kd.C kj w A 1 [X]) :
 Calls Tryz.prog 18 #[.slice A 1 c3,.bool big,.int .i64 0] w fun e w' => ∃ s,e = .returned (.tuple #[.string s,.nilIface]) ∧ Below w.heap.size w w' := by
 have jO : ∀ (fn : Fn) (first cap : Array Value) (w : World),(Instr.makeFunc fn first cap).run Tryz.prog w = .ok (.func fn first cap) w := fun _ _ _ _ => rfl
 obtain ⟨ord,ho,ZB⟩ := acO big
 have HX := U.mk (And.intro kU (And.intro hd hK))
 have HT := U.mk (And.intro hT h5)
 have HC := U.mk hC
 have HDR := U.mk ZB
 have HO := U.mk ho
 have k0 := heap_alloc_new w (.cells #[.string ⟨#[]⟩] 9)
 have k1 := heap_alloc_new (w.alloc (.cells #[.string ⟨#[]⟩] 9)) (.cells #[.nilIface] 38)
 have k2 := heap_alloc_new ((w.alloc (.cells #[.string ⟨#[]⟩] 9)).alloc (.cells #[.nilIface] 38)) (.cells #[.slice none 0 0,.int .i64 0,.int .i8 0] 53)
 have k3 := heap_alloc_new (((w.alloc (.cells #[.string ⟨#[]⟩] 9)).alloc (.cells #[.nilIface] 38)).alloc (.cells #[.slice none 0 0,.int .i64 0,.int .i8 0] 53)) (.cells #[.iface 56 (.pointer (some ⟨w.heap.size + 1 + 1,0,none⟩)),.slice none 0 0,ord,.int .i64 0] 79)
 have l2 := aQ (ab (Below.refl _ _) (.cells #[.iface 56 (.pointer (some ⟨w.heap.size + 1 + 1,0,none⟩)),.slice none 0 0,ord,.int .i64 0] 79)) k2
 have l1 := aQ (ab (ab (Below.refl _ _) (.cells #[.slice none 0 0,.int .i64 0,.int .i8 0] 53)) (.cells #[.iface 56 (.pointer (some ⟨w.heap.size + 1 + 1,0,none⟩)),.slice none 0 0,ord,.int .i64 0] 79)) k1
 have l0 := aQ (ab (ab (ab (Below.refl _ _) (.cells #[.nilIface] 38)) (.cells #[.slice none 0 0,.int .i64 0,.int .i8 0] 53)) (.cells #[.iface 56 (.pointer (some ⟨w.heap.size + 1 + 1,0,none⟩)),.slice none 0 0,ord,.int .i64 0] 79)) k0
 have ZZ := ab (ab (ab (ab (Below.refl w.heap.size w) (.cells #[.string ⟨#[]⟩] 9)) (.cells #[.nilIface] 38)) (.cells #[.slice none 0 0,.int .i64 0,.int .i8 0] 53)) (.cells #[.iface 56 (.pointer (some ⟨w.heap.size + 1 + 1,0,none⟩)),.slice none 0 0,ord,.int .i64 0] 79)
 simp only [World.size_alloc] at k3 l2 l1
 clear ZB ho k0 k1 k2 kU hd hK hT h5 hC
 go_enter_defers Tryz.func18,Tryz.ntmps18
 go_wp2_with (first
  | (go_at_call 32; refine (HDR.out _).mono ?_; rintro e1 w2 ⟨rfl,rfl⟩)
  | (go_at_call 31; refine (Dx _ _ _ _ HO.out).mono ?_; rintro e1 w2 ⟨rfl,rfl⟩)
  | fail)
 generalize (((w.alloc (.cells #[.string ⟨#[]⟩] 9)).alloc (.cells #[.nilIface] 38)).alloc (.cells #[.slice none 0 0,.int .i64 0,.int .i8 0] 53)).alloc (.cells #[.iface 56 (.pointer (some ⟨w.heap.size + 1 + 1,0,none⟩)),.slice none 0 0,ord,.int .i64 0] 79) = W3 at *
 have Ov : Calls Tryz.prog 34 #[.slice A 1 c3] W3 fun e w' => ∃ A' c' us,e = .returned (.slice A' 1 c') ∧ us.length = 1 ∧ Vals w' A' us ∧ (∀ (j : Nat) u t', us[j]? = some u → [(t,K)][j]? = some t' → ∃ S,EV w' S u t'.1 d t'.2 ∧ (∃ dT q,u = .iface dT q) ∧ ∀ k,S k → W3.heap.size ≤ k) ∧ Below W3.heap.size W3 w' :=
  Rk [X] [(t,K)] d rfl (by simp) (fun j y hy => by
   cases j with
   | zero => simp at hy; subst hy; exact ⟨(t,K),rfl,HX.out.1⟩
   | succ j => simp at hy) A c3 W3 (Kd.bD HC.out ZZ)
 refine Ov.mono ?_
 rintro e1 W4 ⟨A', c', us,rfl,Gm,hV,hE,zL⟩
 obtain ⟨u,rfl⟩ := List.length_eq_one_iff.mp Gm
 obtain ⟨ad,rfl,Oy⟩ := hV 0 u rfl
 obtain ⟨S,xF,⟨dT,q,rfl⟩,hS⟩ := hE 0 u (t,K) rfl rfl
 rw [adz] at Oy
 have he3 := (Array.getElem?_eq_some_iff.1 k3).1
 have m0 := aQ zL l0
 have m1 := aQ zL l1
 have m2 := aQ zL l2
 have m3 := aQ zL k3
 have ZY := aw ZZ zL
 have ah1 := (Array.getElem?_eq_some_iff.1 m3).1
 have bJ := en1 (w.heap.size + 1 + 1 + 1) c' ad dT q (Bs t) (fun w' => (∃ r m,Bf w' (w.heap.size + 1 + 1) r m) ∧ Fr W4 w' (fun k => k = w.heap.size + 1 + 1 + 1 ∨ k = w.heap.size + 1 + 1)) W4 Oy (fun W hb => jE dT q t W (xF.ty.at (fun k hk => hb.block k (xF.ty.1 k hk)))) (fun W hb hh=>
  ac6 dT q t d K S w.heap.size (w.heap.size + 1 + 1 + 1) (w.heap.size + 1 + 1) ord w W4 W HT.out.1 ZY HT.out.2 xF HX.out.2.1 HX.out.2.2 HO.out rfl (by omega) (by omega) (by omega) (fun k hk => by have := hS k hk; omega) m3 m2 hb hh)
 have HEN := U.mk bJ
 have M0 := U.mk m0
 have M1 := U.mk m1
 have gy := U.mk ZY
 clear bJ m0 m1 m2 m3 ZY Oy zL l0 l1 l2 k3 ZZ Ov Gm hV hE xF hS he3
 go_wp2_with fail
 refine HEN.out.mono ?_
 rintro e1 w5 ⟨rfl,⟨r5,m5,xE⟩,GF⟩
 have n0 := (GF.keep w.heap.size (by omega) (by omega)).trans M0.out
 have n1 := (GF.keep (w.heap.size + 1) (by omega) (by omega)).trans M1.out
 have AD : Below w.heap.size w w5 := gy.out.trans ⟨GF.os,GF.tape,GF.output,GF.size,fun k hk => GF.keep k (by omega) (by omega)⟩
 obtain ⟨bs,hI5⟩ := xE.str
 have HBS := U.mk (Tryz.Buffer_String _ _ bs w5 hI5)
 have HB6 := U.mk AD
 have c0 : ∀ n,(w5.drewN n).cell? ⟨w.heap.size,0,none⟩ = some (.string ⟨#[]⟩) := fun n => (cell_of_row w5 w.heap.size 0 _ 9 (0,0) n0).trans rfl
 have c1 : ∀ n,(w5.drewN n).cell? ⟨w.heap.size + 1,0,none⟩ = some .nilIface := fun n => (cell_of_row w5 (w.heap.size + 1) 0 _ 38 (0,0) n1).trans rfl
 have f0 : ∀ n,(w5.drewN n).frozen? ⟨w.heap.size,0,none⟩ = false := fun n => frozen_of_row w5 w.heap.size 0 _ 9 n0
 have f1 : ∀ n,(w5.drewN n).frozen? ⟨w.heap.size + 1,0,none⟩ = false := fun n => frozen_of_row w5 (w.heap.size + 1) 0 _ 38 n1
 clear hI5 xE GF n0 n1 AD
 go_wp2_with (go_at_call 35; refine HBS.out.mono ?_; rintro e1 w6 ⟨rfl,n,rfl⟩; have c0n := c0 n; have c1n := c1 n; have f0n := f0 n; have f1n := f1 n)
 have D := aaU (r := ⟨bs.toArray⟩) c0n c1n (ai HB6.out n)
 clear c0 c1 f0 f1 c0n c1n f0n f1n
 refine leaves_cons (f := 30) (args := #[.pointer (some ⟨w.heap.size,0,none⟩),.pointer (some ⟨w.heap.size + 1,0,none⟩)]) (by simp) (by simp [go_sem]) ?_
 refine (Rh _ _ _).mono ?_
 rintro e u' w'' ⟨rfl,rfl,hw⟩
 rw [← hw] at D
 clear hw
 obtain ⟨d6,d7,bH⟩ := D
 simp [Leaves,settle,results,Tryz.results18,go_sem,d6,d7]
 exact bH
theorem we1 (x : aT) (hn : (aJ [x]).length ≤ 1000) (t : List UInt8) (d K : Nat) (kU : DV (gT x) t d K) (hd : d ≤ 64) (hK : K ≤ 67000000) (big : Bool) (A : Option Addr) (cp : Nat) (zJ : 1 ≤ cp) (w : World) (hT : Lib.Utf8Tabs 3 4 w) (h5 : 5 ≤ w.heap.size) (hC : Kd.C dF w A 1 [x]) :
 Calls Tryz.prog 12 #[.slice A 1 cp,.bool big,.int .i64 0] w fun e w' => (∃ s,e = .returned (.tuple #[.string s,.bool true])) ∧ Below w.heap.size w w' := by
 obtain ⟨k,hf⟩ := (acv [x] hn).rounds
 rw [show iz [x] = [gT x] by rw [iz,iz]] at hf
 have HV := U.mk (cw.calls k A cp [x] [gT x] w hC (by simpa using zJ) hf)
 have PI := U.mk (fun (A : Option Addr) (c3 : Nat) (W : World) (hT : Lib.Utf8Tabs 3 4 W) (h5 : 5 ≤ W.heap.size) (hC : Kd.C kj W A 1 [gT x]) => de1 (gT x) t d K kU hd hK big A c3 W hT h5 hC)
 have HT := U.mk (And.intro hT h5)
 clear kU hd hK hT h5 hC hf
 go_enter Tryz.func12,Tryz.ntmps12
 go_wp2_with fail
 refine HV.out.mono ?_
 rintro e1 w2 ⟨v0,rfl,hR,hb⟩
 obtain ⟨A1,c1,rfl,Ez,hC1⟩ := Kd.CX hR
 have EA : Lib.Utf8Tabs 3 4 w2 := zr HT.out.1 (Fr.iW hb (fun _ => False)) (fun k hk => hk.elim)
 have HD := U.mk (PI.out A1 c1 w2 EA (Nat.le_trans HT.out.2 hb.size) hC1)
 have HB := U.mk hb
 clear hR hC1 hb EA
 go_wp2_with (go_at_call 18; refine HD.out.mono ?_; rintro e1 w3 ⟨s,rfl,hb⟩; have bU := U.mk (aw HB.out hb); clear hb)
 go_region
 all_goals
  go_wp2
  go_ret2
  exact ⟨⟨_,rfl⟩,by repeat (first | exact bU.out | apply ak | apply ai)⟩
end Go.Proofs.YtkdebhgccpfkiaaGreatDoor.au
