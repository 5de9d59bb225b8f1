import Derived.Test.YtkdebhgccpfkiaaGreatDoorQKE3
set_option maxRecDepth 100000
set_option maxHeartbeats 16000000
namespace Go.Proofs.YtkdebhgccpfkiaaGreatDoor.au
open Go.RowKit Go.Proofs.aa.az Go.Proofs.aa.aM Go.Proofs.aa.aU
attribute [local go_sem] ba bh
set_option linter.unusedVariables false
set_option linter.unusedSimpArgs false
attribute [local go_sem] jB kK iy fW fV fw fU fT
open Go.Proofs.YtkdebhgccpfkiaaGreatDoor.fD Go.Proofs.YtkdebhgccpfkiaaGreatDoor.fO Go.Proofs.YtkdebhgccpfkiaaGreatDoor.gw
theorem ae7 (ad : Addr) (n c i : Nat) (hi : i < n) (dT : TypeId) (u : Value) (t : List UInt8) (s : ByteArray) (w : World) (hc : w.cell? (ad.add i) = some (.iface dT u)) (hT : fi w (.iface dT u) t) : Calls Tryz.prog 78 #[.agg #[.iface 150 (.agg #[.slice (some ad) n c]),.string s],.int .i64 (i : Int)] w fun e w' => e = .returned (.agg #[.iface dT u,.string (Bs t)]) ∧ Below w.heap.size w w' := by
 have hb1 := ab (Below.refl w.heap.size w) (.cells #[.iface 150 (.agg #[.slice (some ad) n c]),.string s] 86)
 have k1 := heap_alloc_new (w.alloc (.cells #[.iface 150 (.agg #[.slice (some ad) n c]),.string s] 86)) (.cells #[.nilIface,.string ⟨#[]⟩] 86)
 rw [World.size_alloc] at k1
 have hb2 := ab hb1 (.cells #[.nilIface,.string ⟨#[]⟩] 86)
 have k2 := (heap_alloc_old _ (.cells #[.slice (some ad) n c] 150) (Array.getElem?_eq_some_iff.1 k1).1).trans k1
 have fY := ab hb2 (.cells #[.slice (some ad) n c] 150)
 have cc := ag fY hc
 have K2 := U.mk k2
 have bU := U.mk fY
 have HT := U.mk (hT.up fY)
 have g1 : ((0 : Int) ≤ (i : Int)) = True := eq_true (by omega)
 have g2 : ((i : Int) < (n : Int)) = True := eq_true (by omega)
 have g3 : (i < n) = True := eq_true hi
 clear hb1 k1 hb2 k2 fY hc hT
 go_enter Tryz.func78,Tryz.ntmps78
 go_wp2_with fail
 refine (jE dT u t _ HT.out).mono ?_
 rintro e1 w3 ⟨rfl,hb⟩
 have k3 := (hb.block _ (Array.getElem?_eq_some_iff.1 K2.out).1).trans K2.out
 have gy := U.mk (aw bU.out hb)
 have c0 := (cell_of_row w3 (w.heap.size + 1) 0 _ 86 (0,0) k3).trans rfl
 have c1 := (cell_of_row w3 (w.heap.size + 1) 1 _ 86 (0,0) k3).trans rfl
 have z0 := frozen_of_row w3 (w.heap.size + 1) 0 _ 86 k3
 have z1 := frozen_of_row w3 (w.heap.size + 1) 1 _ 86 k3
 have H1 := U.mk (heap_setCell_same _ _ 1 _ _ (.string (Bs t)) (heap_setCell_same _ _ 0 _ _ (.iface dT u) k3))
 clear hb k3
 go_wp2_with fail
 refine bodyPost_ret (results_cell_row rfl _ _ (w.heap.size + 1) 86 _ (0,0) _ rfl H1.out Tryz.underlying86 rfl Hi) rfl ?_
 exact ⟨rfl,(gy.out.setCell (by show w.heap.size ≤ w.heap.size + 1; omega) _).setCell (by show w.heap.size ≤ w.heap.size + 1; omega) _⟩
theorem zR (Ks : List Nat) (i : Nat) (h : i < Ks.length) : (Ks.take (i + 1)).sum = (Ks.take i).sum + Ks[i] := by
 rw [List.take_succ_eq_append_getElem h,List.sum_append]; simp
theorem yM (Ks : List Nat) (i : Nat) : (Ks.take i).sum ≤ Ks.sum := by
 conv => rhs; rw [← List.take_append_drop i Ks]
 rw [List.sum_append]; omega
theorem aat (Sx : Nat → Prop) (w0 : World) (A : Option Addr) (n c : Nat) (vs : List Value) (zs : List (List UInt8 × List UInt8)) (Ks : List Nat) (d : Nat) (iJ : vs.length = n) (Ee : zs.length = n) (cf : Ks.length = n) (hn : n ≤ 1000) (hz : ∀ z ∈ zs,Z 32 32 32 z.1 z.2) (vA : (zs.map Prod.snd).flatten.length ≤ 100000)
 (hcell : ∀ (j : Nat) v,vs[j]? = some v → ∃ ad,A = some ad ∧ ∀ W : World,(∀ k,Sx k → W.heap[k]? = w0.heap[k]?) → W.cell? (ad.add j) = some v)
 (dD : ∀ (j : Nat) v z,vs[j]? = some v → zs[j]? = some z → ∃ dT u S,v = .iface dT u ∧ EV w0 S v z.2 d (Ks.getD j 0) ∧ ∀ k,S k → Sx k) :
 G1 w0 Sx (.iface 150 (.agg #[.slice A n c])) (40 :: ((zs.map Prod.snd).flatten ++ [41])) (d + 1) (Ks.sum + 20) := by
 intro W hW B e b r pos m ord dep BD hE ho hT hB cm dt hp hm
 obtain ⟨kf,hf⟩ := (Kf (A := 32) (B := 32) (E := 32) zs hz vA).rounds
 obtain ⟨t,ht⟩ : ∃ t,(zs.map Prod.snd).flatten ++ [41] = t := ⟨_,rfl⟩
 rw [ht] at hf ⊢
 have kQ : decide (64 < dep) = false := by simp; omega
 have Eo : ((Bs (40 :: t)).toList == ([118] : List UInt8)) = false := by rw [ch,fH]; exact beq_eq_false_iff_ne.mpr (by simp)
 have I6 : ((Bs (40 :: t)).toList == ([103] : List UInt8)) = false := by rw [ch,fH]; exact beq_eq_false_iff_ne.mpr (by simp)
 have HNF : U (cZ.f kf (Bs (40 :: t)) = some (n : Int)) := ⟨by unfold cZ.f; rw [hf]; simp [Ee]⟩
 have HFD : U (∀ (i : Nat) z,zs[i]? = some z → dh.f kf (Bs (40 :: t)) (i : Int) = some (Bs z.2,⟨#[]⟩,⟨#[]⟩)) := ⟨fun i z hz => by
  have hi := (List.getElem?_eq_some_iff.1 hz).1
  unfold dh.f
  rw [hf]
  simp only [Option.bind_some]
  rw [if_pos (by omega),if_pos (by rw [List.length_map]; omega)]
  unfold gI
  rw [Int.toNat_natCast,List.getD_eq_getElem?_getD,List.getElem?_map,hz]
  rfl⟩
 have H0 := U.mk hE
 have N0 := U.mk (St.start (.iface 150 (.agg #[.slice A n c])) (.string (Bs (40 :: t))) hE)
 have y0 := N0.out.x0
 have y1 := N0.out.x1
 have HK := U.mk (And.intro hcell (And.intro dD (And.intro hW BD)))
 have HO := U.mk (And.intro ho (And.intro hT hB))
 have HL := U.mk (And.intro iJ (And.intro Ee cf))
 have h7 := dZ (x := pos) (a := 8) (by omega)
 obtain ⟨q,hq⟩ : ∃ q,pd pos 8 = q := ⟨_,rfl⟩
 rw [hq] at h7
 have HQ := U.mk hq
 obtain ⟨KS,BG⟩ : ∃ KS,Ks.sum = KS := ⟨_,rfl⟩
 rw [BG] at hp hm ⊢
 have AG := U.mk BG
 obtain ⟨gj,Ex⟩ : ∃ gj,dep + 1 = gj := ⟨_,rfl⟩
 have Y' : IntKind.i64.wrap (dep + 1) = gj := by rw [IntKind.wrap_i64]; omega
 have HD : U (0 ≤ gj ∧ gj + (d : Int) ≤ 64) := ⟨by omega,by omega⟩
 clear hE cm dt hq ho hT hB hcell dD hW BD Ex hz vA hf ht iJ Ee cf BG
 go_enter Tryz.func47,Tryz.ntmps47
 go_wp2_with (first
  | (go_at_call 61; have h9 := N3; refine (bC _ rfl _ _).mono ?_; rintro e1 w2 ⟨rfl,hb⟩; have N3 := U.mk (N3.out.up hb); have v0 := N3.out.x0; have v1 := N3.out.x1; clear hb h9)
  | (go_at_call 61; refine (bC _ rfl _ _).mono ?_; rintro e1 w2 ⟨rfl,hb⟩; have N1 := U.mk (N0.out.up hb); have z0 := N1.out.x0; have z1 := N1.out.x1; clear hb)
  | (go_at_call 60; refine (T0 t _).mono ?_; rintro e1 w3 ⟨rfl,hb⟩; have N1 := U.mk (N1.out.up hb); have z0 := N1.out.x0; have z1 := N1.out.x1; clear hb)
  | (go_at_call 59; refine (b7 N1.out.en 8 (by omega) (by omega) (by omega)).mono ?_; rintro e1 w4 ⟨rfl,r4,bJ,bX,bY⟩; rw [HQ.out] at bJ; have N2 := U.mk (N1.out.step bJ bX bY (N1.out.iX H0.out)); have u0 := N2.out.x0; have u1 := N2.out.x1; clear bJ bX bY)
  | (go_at_call 62; refine (acx _ rfl t _).mono ?_; rintro e1 w5 ⟨rfl,hb⟩; have N3 := U.mk (N2.out.up hb); have v0 := N3.out.x0; have v1 := N3.out.x1; clear hb)
  | fail)
 go_loopg [29] n (fun kq v29 wr => ∃ (i p : Nat) (rr : Option Nat),v29 = .int .i64 (i : Int) ∧ i ≤ n ∧ p ≤ KS ∧ U (kq = n - i ∧ p ≤ (Ks.take i).sum ∧ St W B e b r ord (.iface 150 (.agg #[.slice A n c])) (.string (Bs (40 :: t))) wr rr (pos + q + p) (m + q + p)))
 case atStart => exact ⟨0,0,_,rfl,by omega,by omega,⟨rfl,by simp,N3.out⟩⟩
 case round=>
  obtain ⟨i,p,rr,rfl,hi,Gq,HI⟩ := hrel
  have fP := U.mk HI.out.1
  have x0 := HI.out.2.2.x0
  have x1 := HI.out.2.2.x1
  go_wp2_with fail
  refine (bC _ rfl _ _).mono ?_
  rintro e2 w6 ⟨rfl,hb⟩
  have M1 := U.mk (HI.out.2.2.up hb)
  clear hb
  go_wp2_with fail
  refine (cZ.calls kf _ _ _ HNF.out).mono ?_
  rintro e3 w7 ⟨rfl,hb⟩
  have M2 := U.mk (M1.out.up hb)
  clear hb
  by_cases hlt : i < n
  · have hd : decide ((i : Int) < (n : Int)) = true := by simpa using hlt
    have iI : IntKind.i64.wrap ((i : Int) + 1) = ((i + 1 : Nat) : Int) := by rw [IntKind.wrap_i64]; omega
    obtain ⟨z,hz⟩ : ∃ z,zs[i]? = some z := ⟨_,List.getElem?_eq_getElem (by rw [HL.out.2.1]; exact hlt)⟩
    obtain ⟨v,hv⟩ : ∃ v,vs[i]? = some v := ⟨_,List.getElem?_eq_getElem (by rw [HL.out.1]; exact hlt)⟩
    obtain ⟨dT,u,S,rfl,xF,hS⟩ := HK.out.2.1 i v z hv hz
    obtain ⟨ad,rfl,Di⟩ := HK.out.1 i _ hv
    have HE := U.mk (And.intro xF (And.intro hS Di))
    have Ur := U.mk (HFD.out i z hz)
    have GW : U ((Ks.take (i + 1)).sum = (Ks.take i).sum + Ks.getD i 0) := ⟨by
     have hil : i < Ks.length := by rw [HL.out.2.2]; exact hlt
     rw [zR Ks i hil,List.getD_eq_getElem?_getD,List.getElem?_eq_getElem hil]; rfl⟩
    clear hz hv xF hS Di
    go_wp2_with fail
    refine (dh.calls kf _ _ _ _ _ _ Ur.out).mono ?_
    rintro e4 w8 ⟨rfl,hb⟩
    have M3 := U.mk ((M2.out.up hb).up (ab (Below.refl _ _) (.cells #[.string (Bs z.2),.string ⟨#[]⟩,.string ⟨#[]⟩] 137)))
    have m0 := fun k => (M3.out.up (ai (Below.refl _ _) k)).x0
    have m1 := fun k => (M3.out.up (ai (Below.refl _ _) k)).x1
    clear hb
    go_wp2_with (first | (go_at_call 82; refine (jj.calls _ _ ⟨#[]⟩ _ rfl).mono ?_; rintro e5 w9 ⟨rfl,nd,rfl⟩; have m0d := m0 nd; have m1d := m1 nd; have M4 := U.mk (M3.out.up (ai (Below.refl _ _) nd))) | fail)
    refine (ae7 ad n c i hlt dT u z.2 _ _ (HE.out.2.2 _ (fun k hk => (M4.out.kept H0.out (HK.out.2.2.2 k hk)).trans (HK.out.2.2.1 k hk))) (HE.out.1.ty.at (fun k hk => (M4.out.kept H0.out (HK.out.2.2.2 k (HE.out.2.1 k hk))).trans (HK.out.2.2.1 k (HE.out.2.1 k hk))))).mono ?_
    rintro e6 ki ⟨rfl,hb⟩
    have M5 := U.mk (M4.out.up hb)
    have vJ : U (p + Ks.getD i 0 ≤ KS) := ⟨by have h1 := GW.out; have h2 := yM Ks (i + 1); have h3 := AG.out; have h4 := HI.out.2.1; omega⟩
    clear hb
    go_wp2_with fail
    refine (HE.out.1.en _ (fun k hk => (M5.out.kept H0.out (HK.out.2.2.2 k (HE.out.2.1 k hk))).trans (HK.out.2.2.1 k (HE.out.2.1 k hk))) B e b _ _ _ ord gj (fun k hk => M5.out.sf (HK.out.2.2.2 k (HE.out.2.1 k hk))) M5.out.en HO.out.1 (M5.out.tabs H0.out HO.out.2.1 HO.out.2.2) HO.out.2.2 HD.out.1 HD.out.2 (by have := vJ.out; omega) (by have := vJ.out; omega)).mono ?_
    rintro e7 vM ⟨rfl,he⟩
    obtain ⟨Ge,p2,Bv,hst⟩ := M5.out.er H0.out he
    have M6 := U.mk (And.intro Bv hst)
    clear he hst Bv
    go_wp2_with fail
    go_roundg (n - (i + 1))
    case measure => have := fP.out; omega
    case rel=>
     have h1 := GW.out
     have h2 := vJ.out
     have h3 := M6.out.1
     have h4 := HI.out.2.1
     exact ⟨i + 1,p + p2,_,rfl,hlt,by omega,⟨rfl,by omega,by rw [← Nat.add_assoc,← Nat.add_assoc]; exact M6.out.2⟩⟩
  · have hd : decide ((i : Int) < (n : Int)) = false := by simpa using hlt
    go_wp2_with fail
    go_end0
    exact ⟨rfl,M2.out.out ⟨q + p,by omega,by omega,by omega⟩⟩
end Go.Proofs.YtkdebhgccpfkiaaGreatDoor.au
namespace Go.Proofs.YtkdebhgccpfkiaaGreatDoor.au
open Go.RowKit Go.Proofs.aa.az Go.Proofs.aa.aM Go.Proofs.aa.aU
attribute [local go_sem] ba bh
set_option linter.unusedVariables false
set_option linter.unusedSimpArgs false
attribute [local go_sem] jB kK iy fW fV fw fU fT
theorem Iv {w : World} {b : Nat} {lr : Int} (hb : w.heap[b]? = some (.cells #[.slice none 0 0,.int .i64 0,.int .i8 lr] 53 (0,0))) : Lib.IsBuffer 53 5 b b [] w:=
 ⟨Nat.le_refl _,.slice none 0 0,lr,hb,World.ownsRow_nil _ _ _ _,by simp [Value.ownBlock]⟩
theorem Ik (w : World) (b : Nat) (x y : Value) (sl : Value) (lz : (sl = .slice none 0 0) ∨ ∃ g l cap,sl = .slice (some ⟨g,0,none⟩) l cap ∧ l ≤ cap ∧ cap ≤ 9223372036854775807) (hb : w.heap[b]? = some (.cells #[sl,x,y] 53 (0,0))) :
 Calls Tryz.prog 103 #[.pointer (some ⟨b,0,none⟩)] w fun e w' => e = .returned (.tuple #[]) ∧ (∀ k,k ≠ b → w'.heap[k]? = w.heap[k]?) ∧ w'.os = w.os ∧ w'.tape = w.tape ∧ w'.output = w.output ∧ w'.heap.size = w.heap.size := by
 have c0 : w.cell? ⟨b,0,none⟩ = some sl := (cell_of_row w b 0 _ 53 (0,0) hb).trans rfl
 have c1 : w.cell? ⟨b,1,none⟩ = some x := (cell_of_row w b 1 _ 53 (0,0) hb).trans rfl
 have c2 : w.cell? ⟨b,2,none⟩ = some y := (cell_of_row w b 2 _ 53 (0,0) hb).trans rfl
 have f0 := frozen_of_row w b 0 _ 53 hb
 have f1 := frozen_of_row w b 1 _ 53 hb
 have f2 := frozen_of_row w b 2 _ 53 hb
 clear hb
 rcases lz with rfl | ⟨g,l,cap,rfl,hl,hc⟩
 · go_enter Tryz.func103,Tryz.ntmps103
   go_wp2
   go_end0
   refine ⟨rfl,fun k hk => ?_,rfl,rfl,rfl,by simp [World.setCell]⟩
   rw [Below.heap_setCell _ ⟨b,2,none⟩ _ k hk,Below.heap_setCell _ ⟨b,1,none⟩ _ k hk,Below.heap_setCell _ ⟨b,0,none⟩ _ k hk]
 · go_enter Tryz.func103,Tryz.ntmps103
   go_wp2
   all_goals
    go_end0
    refine ⟨rfl,fun k hk => ?_,rfl,rfl,rfl,by simp [World.setCell]⟩
    rw [Below.heap_setCell _ ⟨b,2,none⟩ _ k hk,Below.heap_setCell _ ⟨b,1,none⟩ _ k hk,Below.heap_setCell _ ⟨b,0,none⟩ _ k hk]
theorem LU (w : World) (bi g n cap : Nat) (cur : Array Value) (lr : Int) (zK : w.heap[bi]? = some (.cells #[.slice (some ⟨g,0,none⟩) n cap,.int .i64 0,.int .i8 lr] 53 (0,0))) (hg : w.heap[g]? = some (.cells cur 5 (0,0))) (iL : g ≠ bi) (Gs : n ≤ cap) (hcm : cap ≤ maxLen) (hcs : cur.size = cap) :
 Calls Tryz.prog 76 #[.pointer (some ⟨bi,0,none⟩)] w fun e w' => e = .returned (.int .i64 (n : Int)) ∧ ∃ k,w' = w.drewN k := by
 have hl : (cur.toList.take n).length = n := by rw [List.length_take,Array.length_toList]; omega
 have hI : Lib.IsBuffer 53 5 0 bi (cur.toList.take n) w := ⟨Nat.zero_le _,_,lr,zK,⟨by rw [hl]; omega,.inr ⟨g,cap,cur,by rw [hl],Nat.zero_le _,hg,by rw [hl]; exact Gs,hcm,by omega,by rw [hl,Nat.mul_one]⟩⟩,by simpa [Value.ownBlock] using iL⟩
 have h := Tryz.Buffer_Len 0 bi (cur.toList.take n) w hI
 rw [hl] at h
 exact h
theorem MI (w : World) (bi b g n cap : Nat) (cur : Array Value) (lr : Int) (zK : w.heap[bi]? = some (.cells #[.slice (some ⟨g,0,none⟩) n cap,.int .i64 0,.int .i8 lr] 53 (0,0))) (hg : w.heap[g]? = some (.cells cur 5 (0,0))) (iL : g ≠ bi) (hn : 1 ≤ n) (Gs : n ≤ cap) (hcm : cap ≤ maxLen) (gD : n ≤ 200000000000) (hcs : cur.size = cap) (Q : World → Prop)
 (HW : ∀ W1,(∀ k,k ≠ bi → W1.heap[k]? = w.heap[k]?) → W1.os = w.os → W1.tape = w.tape → W1.output = w.output → W1.heap.size = w.heap.size → W1.heap[bi]? = some (.cells #[.slice (some ⟨g,0,none⟩) n cap,.int .i64 0,.int .i8 0] 53 (0,0)) → Calls Tryz.prog 128 #[.pointer (some ⟨b,0,none⟩),.slice (some ⟨g,0,none⟩) n cap] W1 fun e w' => e = .returned (.tuple #[.int .i64 (n : Int),.nilIface]) ∧ Q w')
 (HQ : ∀ w', Q w' → w'.heap[bi]? = some (.cells #[.slice (some ⟨g,0,none⟩) n cap,.int .i64 0,.int .i8 0] 53 (0,0))) :
 Calls Tryz.prog 77 #[.pointer (some ⟨bi,0,none⟩),.iface 56 (.pointer (some ⟨b,0,none⟩))] w fun e w' => e = .returned (.tuple #[.int .i64 (n : Int),.nilIface]) ∧ ∃ w1,Q w1 ∧ (∀ k,k ≠ bi → w'.heap[k]? = w1.heap[k]?) ∧ w'.os = w1.os ∧ w'.tape = w1.tape ∧ w'.output = w1.output ∧ w'.heap.size = w1.heap.size := by
 have c2 : w.cell? ⟨bi,2,none⟩ = some (.int .i8 lr) := (cell_of_row w bi 2 _ 53 (0,0) zK).trans rfl
 have f2 := frozen_of_row w bi 2 _ 53 zK
 have hb2 : (w.setCell ⟨bi,2,none⟩ (.int .i8 0)).heap[bi]? = some (.cells #[.slice (some ⟨g,0,none⟩) n cap,.int .i64 0,.int .i8 0] 53 (0,0)) := heap_setCell_same w bi 2 _ 53 (.int .i8 0) zK
 have QZ : ∀ k,k ≠ bi → (w.setCell ⟨bi,2,none⟩ (.int .i8 0)).heap[k]? = w.heap[k]? := fun k hk => by rw [Below.heap_setCell _ ⟨bi,2,none⟩ _ k hk]
 have cN : (w.setCell ⟨bi,2,none⟩ (.int .i8 0)).heap.size = w.heap.size := by simp [World.setCell]
 have HL := U.mk (LU _ bi g n cap cur 0 hb2 ((QZ g iL).trans hg) iL Gs hcm hcs)
 have HC := U.mk (fun k => HW ((w.setCell ⟨bi,2,none⟩ (.int .i8 0)).drewN k) (fun j hj => QZ j hj) rfl rfl rfl cN hb2)
 have d0 : ∀ k,((w.setCell ⟨bi,2,none⟩ (.int .i8 0)).drewN k).drew.cell? ⟨bi,0,none⟩ = some (.slice (some ⟨g,0,none⟩) n cap) := fun k => (cell_of_row (w.setCell ⟨bi,2,none⟩ (.int .i8 0)) bi 0 _ 53 (0,0) hb2).trans rfl
 have d1 : ∀ k,((w.setCell ⟨bi,2,none⟩ (.int .i8 0)).drewN k).drew.cell? ⟨bi,1,none⟩ = some (.int .i64 0) := fun k => (cell_of_row (w.setCell ⟨bi,2,none⟩ (.int .i8 0)) bi 1 _ 53 (0,0) hb2).trans rfl
 have c0 : w.cell? ⟨bi,0,none⟩ = some (.slice (some ⟨g,0,none⟩) n cap) := (cell_of_row w bi 0 _ 53 (0,0) zK).trans rfl
 have c1 : w.cell? ⟨bi,1,none⟩ = some (.int .i64 0) := (cell_of_row w bi 1 _ 53 (0,0) zK).trans rfl
 have e0 : (w.setCell ⟨bi,2,none⟩ (.int .i8 0)).cell? ⟨bi,0,none⟩ = some (.slice (some ⟨g,0,none⟩) n cap) := (cell_of_row (w.setCell ⟨bi,2,none⟩ (.int .i8 0)) bi 0 _ 53 (0,0) hb2).trans rfl
 have e1 : (w.setCell ⟨bi,2,none⟩ (.int .i8 0)).cell? ⟨bi,1,none⟩ = some (.int .i64 0) := (cell_of_row (w.setCell ⟨bi,2,none⟩ (.int .i8 0)) bi 1 _ 53 (0,0) hb2).trans rfl
 have hgt : decide ((0 : Int) < (n : Int)) = true := by simp; omega
 have hwn : IntKind.i64.wrap (n : Int) = (n : Int) := by rw [IntKind.wrap_i64]; omega
 have jO : ∀ (fn : Fn) (first cap : Array Value) (w : World),(Instr.makeFunc fn first cap).run Tryz.prog w = .ok (.func fn first cap) w := fun _ _ _ _ => rfl
 have jZ := dS b
 have jY := cR b
 have HX := U.mk HQ
 clear zK hb2 QZ cN hg HW HQ
 go_enter Tryz.func77,Tryz.ntmps77
 go_wp2_with (go_at_call 76; refine HL.out.mono ?_; rintro e w2 ⟨rfl,kd,rfl⟩; have d0k := d0 kd; have d1k := d1 kd)
 go_region_with (go_at_call 128; refine (HC.out (kd + 1)).mono ?_; rintro e w3 ⟨rfl,hq⟩; have HQQ := U.mk hq; clear hq)
 all_goals
  have fY := HX.out _ HQQ.out
  have q1 := (cell_of_row w3 bi 1 _ 53 (0,0) fY).trans rfl
  have q4 := frozen_of_row w3 bi 1 _ 53 fY
  have zL : (w3.setCell ⟨bi,1,none⟩ (.int .i64 (n : Int))).heap[bi]? = some (.cells #[.slice (some ⟨g,0,none⟩) n cap,.int .i64 (n : Int),.int .i8 0] 53 (0,0)) := heap_setCell_same w3 bi 1 _ 53 (.int .i64 (n : Int)) fY
  have HR := U.mk (Ik _ bi _ _ (.slice (some ⟨g,0,none⟩) n cap) (.inr ⟨g,n,cap,rfl,Gs,by unfold maxLen at hcm; omega⟩) zL)
  have HO : U (∀ k,k ≠ bi → (w3.setCell ⟨bi,1,none⟩ (.int .i64 (n : Int))).heap[k]? = w3.heap[k]?) := ⟨fun k hk => Below.heap_setCell w3 ⟨bi,1,none⟩ (.int .i64 (n : Int)) k hk⟩
  clear fY zL
  go_wp2_with (go_at_call 103; refine HR.out.mono ?_; rintro e w5 ⟨rfl,z1,z2,z3,z4,z5⟩; have HZ := U.mk (And.intro z1 (And.intro z2 (And.intro z3 (And.intro z4 z5)))); clear z1 z2 z3 z4 z5)
  go_ret2
  exact ⟨rfl,w3,HQQ.out,fun k hk => (HZ.out.1 k hk).trans (HO.out k hk),HZ.out.2.1,HZ.out.2.2.1,HZ.out.2.2.2.1,by rw [HZ.out.2.2.2.2]; simp [World.setCell]⟩
theorem LG (w : World) (bi b : Nat) (lr : Int) (zK : w.heap[bi]? = some (.cells #[.slice none 0 0,.int .i64 0,.int .i8 lr] 53 (0,0))) :
 Calls Tryz.prog 77 #[.pointer (some ⟨bi,0,none⟩),.iface 56 (.pointer (some ⟨b,0,none⟩))] w fun e w' => e = .returned (.tuple #[.int .i64 0,.nilIface]) ∧ (∀ k,k ≠ bi → w'.heap[k]? = w.heap[k]?) ∧ w'.os = w.os ∧ w'.tape = w.tape ∧ w'.output = w.output ∧ w'.heap.size = w.heap.size := by
 have c2 : w.cell? ⟨bi,2,none⟩ = some (.int .i8 lr) := (cell_of_row w bi 2 _ 53 (0,0) zK).trans rfl
 have f2 := frozen_of_row w bi 2 _ 53 zK
 have hb2 : (w.setCell ⟨bi,2,none⟩ (.int .i8 0)).heap[bi]? = some (.cells #[.slice none 0 0,.int .i64 0,.int .i8 0] 53 (0,0)) := heap_setCell_same w bi 2 _ 53 (.int .i8 0) zK
 have hl : Calls Tryz.prog 76 #[.pointer (some ⟨bi,0,none⟩)] (w.setCell ⟨bi,2,none⟩ (.int .i8 0)) fun e w' => e = .returned (.int .i64 0) ∧ ∃ n,w' = (w.setCell ⟨bi,2,none⟩ (.int .i8 0)).drewN n := Tryz.Buffer_Len bi bi [] _ (Iv hb2)
 have HL := U.mk hl
 have HR := U.mk (fun k => Ik ((w.setCell ⟨bi,2,none⟩ (.int .i8 0)).drewN k) bi _ _ (.slice none 0 0) (.inl rfl) hb2)
 have HO : U (∀ k,k ≠ bi → (w.setCell ⟨bi,2,none⟩ (.int .i8 0)).heap[k]? = w.heap[k]?) := ⟨fun k hk => Below.heap_setCell w ⟨bi,2,none⟩ (.int .i8 0) k hk⟩
 clear zK hb2 hl
 go_enter Tryz.func77,Tryz.ntmps77
 go_wp2_with (first | (go_at_call 76; refine HL.out.mono ?_; rintro e w2 ⟨rfl,kd,rfl⟩) | (go_at_call 103; refine (HR.out kd).mono ?_; rintro e w5 ⟨rfl,z1,z2,z3,z4,z5⟩; have HZ := U.mk (And.intro z1 (And.intro z2 (And.intro z3 (And.intro z4 z5)))); clear z1 z2 z3 z4 z5))
 go_ret2
 exact ⟨rfl,fun k hk => (HZ.out.1 k hk).trans (HO.out k hk),HZ.out.2.1,HZ.out.2.2.1,HZ.out.2.2.2.1,by rw [HZ.out.2.2.2.2]; simp [World.setCell]⟩
theorem Ea {w : World} {b : Nat} {r : Option Nat} {m : Nat} (h : Bf w b r m) : Calls Tryz.prog 76 #[.pointer (some ⟨b,0,none⟩)] w fun e w' => e = .returned (.int .i64 (m : Int)) ∧ Below w.heap.size w w' := by
 obtain ⟨bs,hl,hI⟩ := h.is
 refine (Tryz.Buffer_Len 0 b bs w hI).mono ?_
 rintro e w' ⟨rfl,n,rfl⟩
 exact ⟨by rw [hl],ai (Below.refl _ _) n⟩
theorem acr {w : World} {b1 b : Nat} {r1 r : Option Nat} {m1 m : Nat} (h1 : Bf w b1 r1 m1) (h : Bf w b r m) (bH : b ≠ b1) (On : r ≠ some b1) (jW : r1 ≠ some b) (hrr : ∀ g,r1 = some g → r ≠ some g) (km : m1 ≤ 200000000000) (hm : m ≤ 200000000000) :
 Calls Tryz.prog 77 #[.pointer (some ⟨b1,0,none⟩),.iface 56 (.pointer (some ⟨b,0,none⟩))] w fun e w' => e = .returned (.tuple #[.int .i64 (m1 : Int),.nilIface]) ∧ ∃ r', Bf w' b r' (m + m1) ∧ Rn w r r' ∧ Fr w w' (fun k => BX b r k ∨ k = b1) := by
 rcases h1 with ⟨rfl,rfl,lr,hb⟩ | ⟨g,cap,cur,lr,rfl,iL,hb,hg,hmc,hcm,hcs,L5,ho⟩
 · refine (LG w b1 b lr hb).mono ?_
   rintro e w' ⟨rfl,z1,z2,z3,z4,z5⟩
   refine ⟨rfl,r,?_,.inl rfl,⟨z2,z3,z4,by omega,fun k _ hx => z1 k (fun q => hx (.inr q))⟩⟩
   exact h.move (z1 b bH) (fun g hg => z1 g (fun q => On (q ▸ hg)))
 · have hgr : r ≠ some g := hrr g rfl
   have hgl := (Array.getElem?_eq_some_iff.1 hg).1
   have ae0 := (Array.getElem?_eq_some_iff.1 hb).1
   refine (MI w b1 b g m1 cap cur lr hb hg iL L5 hmc hcm (by omega) hcs (fun w' => ∃ r', Bf w' b r' (m + m1) ∧ Rn w r r' ∧ Fr w w' (fun k => BX b r k ∨ k = b1) ∧ w'.heap[b1]? = some (.cells #[.slice (some ⟨g,0,none⟩) m1 cap,.int .i64 0,.int .i8 0] 53 (0,0))) ?_ ?_).mono ?_
   · intro W1 q1 q2 q3 q4 q5 q6
     have hB : Bf W1 b r m := h.move (q1 b bH) (fun g' hg' => q1 g' (fun q => On (q ▸ hg')))
     have fM := (q1 g iL).trans hg
     have Di : cur.toList.length = cur.size := Array.length_toList
     have Jv : ∀ j,((⟨g,0,none⟩ : Addr).add j).block = g := fun j => by rw [Lib.addr_add]
     refine (P0 W1 b r m m1 cap (cur.toList.take m1) ⟨g,0,none⟩ hB L5 (by omega) (by rw [List.length_take]; omega) (Lib.cells_of_row fM m1) (fun j v _ => by rw [Jv]; exact ⟨by rw [q5]; exact hgl,fun q => jW (by rw [← q])⟩) (fun q => jW (by rw [← (show g = b from q)])) ho).mono ?_
     rintro e w' ⟨he,r', c1,c2,c3⟩
     refine ⟨he,r', c1,?_,⟨c3.os.trans q2,c3.tape.trans q3,c3.output.trans q4,by rw [← q5]; exact c3.size,fun k hk hx => (c3.keep k (by rw [q5]; exact hk) (fun h => hx (.inl h))).trans (q1 k (fun q => hx (.inr q)))⟩,?_⟩
     · rcases c2 with c | ⟨g', c,hg'⟩
       · exact .inl c
       · exact .inr ⟨g', c,by rw [← q5]; exact hg'⟩
     · refine (c3.keep b1 (by rw [q5]; exact ae0) ?_).trans q6
       rintro (q | q)
       · exact bH q.symm
       · exact On q
   · rintro w' ⟨_,_,_,_,h⟩
     exact h
   · rintro e w' ⟨rfl,w1,⟨r', c1,c2,c3,_⟩,z1,z2,z3,z4,z5⟩
     refine ⟨rfl,r', ?_,c2,⟨z2.trans c3.os,z3.trans c3.tape,z4.trans c3.output,by rw [z5]; exact c3.size,fun k hk hx => (z1 k (fun q => hx (.inr q))).trans (c3.keep k hk hx)⟩⟩
     refine c1.move (z1 b bH) (fun g' hg' => z1 g' (fun q => ?_))
     rcases c2 with rfl | ⟨g2,rfl,lD⟩
     · exact On (q ▸ hg')
     · obtain rfl := Option.some.inj hg'
       omega
structure D2 (w : World) (B e b : Nat) (r0 : Option Nat) (ord V S : Value) (B1 e1 b1 : Nat) (W : World) (r : Option Nat) (pos m : Nat) (r1 : Option Nat) (eO m1 : Nat) : Prop where
 st : St w B e b r0 ord V S W r pos m
 gK : EN W B1 e1 b1 r1 eO m1 ord
 gt : w.heap.size < B1
 dj : ∀ k,EX e1 b1 r1 k → ¬ EX e b r k
theorem D2.up {w W W' : World} {B e b : Nat} {r0 r r1 : Option Nat} {ord V S : Value} {B1 e1 b1 pos m eO m1 : Nat} (h : D2 w B e b r0 ord V S B1 e1 b1 W r pos m r1 eO m1) (hb : Below W.heap.size W W') : D2 w B e b r0 ord V S B1 e1 b1 W' r pos m r1 eO m1:=
 ⟨h.st.up hb,h.gK.up hb,h.gt,h.dj⟩
theorem O4 {w W : World} {e b e1 b1 : Nat} {r r' r1 : Option Nat} (hl : ∀ k,EX e1 b1 r1 k → k < W.heap.size) (dj : ∀ k,EX e1 b1 r1 k → ¬ EX e b r k) (hr : Rn W r r') : ∀ k,EX e1 b1 r1 k → ¬ EX e b r' k := by
 intro k hk hx
 rcases hx with hx | hx | hx
 · exact dj k hk (.inl hx)
 · exact dj k hk (.inr (.inl hx))
 · rcases hr with rfl | ⟨g,rfl,hg⟩
   · exact dj k hk (.inr (.inr hx))
   · obtain rfl := Option.some.inj hx
     have := hl _ hk
     omega
theorem D2.outer {w W W' : World} {B e b : Nat} {r0 r r1 r' : Option Nat} {ord V S : Value} {B1 e1 b1 pos m eO m1 p0 m0 pos' m' : Nat} (h0 : EN w B e b r0 p0 m0 ord) (h : D2 w B e b r0 ord V S B1 e1 b1 W r pos m r1 eO m1) (he : EN W' B e b r' pos' m' ord) (hf : Fr W W' (EX e b r)) (hr : Rn W r r') : D2 w B e b r0 ord V S B1 e1 b1 W' r' pos' m' r1 eO m1:=
 ⟨h.st.step he hf hr (h.st.iX h0),h.gK.move hf.size (fun k hk => hf.keep k (h.gK.lt k hk) (h.dj k hk)),h.gt,O4 (w := w) h.gK.lt h.dj hr⟩
theorem D2.KF {w W W' : World} {B e b : Nat} {r0 r r1 : Option Nat} {ord V S : Value} {B1 e1 b1 pos m eO m1 p0 m0 K : Nat} (h0 : EN w B e b r0 p0 m0 ord) (h : D2 w B e b r0 ord V S B1 e1 b1 W r pos m r1 eO m1) (he : ER W B e b r pos m ord K W') : ∃ r' p,p ≤ K ∧ D2 w B e b r0 ord V S B1 e1 b1 W' r' (pos + p) (m + p) r1 eO m1 := by
 obtain ⟨r', p,h1,h2,h3,h4⟩ := he
 exact ⟨r', p,h4,h.outer h0 h1 h2 h3⟩
theorem D2.inner {w W W' : World} {B e b : Nat} {r0 r r1 Gf : Option Nat} {ord V S : Value} {B1 e1 b1 pos m eO m1 D6 NH : Nat} (h : D2 w B e b r0 ord V S B1 e1 b1 W r pos m r1 eO m1) (he : EN W' B1 e1 b1 Gf D6 NH ord) (hf : Fr W W' (EX e1 b1 r1)) (hr : Rn W r1 Gf) : D2 w B e b r0 ord V S B1 e1 b1 W' r pos m Gf D6 NH := by
 have Jh : ∀ k,EX e1 b1 r1 k → B1 ≤ k := fun k hk => EX.ge h.gK k hk
 have hgt := h.gt
 refine ⟨⟨h.st.en.move hf.size (fun k hk => hf.keep k (h.st.en.lt k hk) (fun hx => h.dj k hx hk)),(hf.keep _ h.st.lt (fun hx => by have := Jh _ hx; omega)).trans h.st.box,h.st.fr.trans hf (fun k hk hx => by have := Jh _ hx; omega),h.st.rn⟩,he,h.gt,?_⟩
 intro k hk hx
 exact O4 (w := w) (r' := Gf) h.st.en.lt (fun k h1 h2 => h.dj k h2 h1) hr k hx hk
theorem D2.Ce {w W W' : World} {B e b : Nat} {r0 r r1 : Option Nat} {ord V S : Value} {B1 e1 b1 pos m eO m1 K : Nat} (h : D2 w B e b r0 ord V S B1 e1 b1 W r pos m r1 eO m1) (he : ER W B1 e1 b1 r1 eO m1 ord K W') : ∃ r' p,p ≤ K ∧ D2 w B e b r0 ord V S B1 e1 b1 W' r pos m r' (eO + p) (m1 + p) := by
 obtain ⟨r', p,h1,h2,h3,h4⟩ := he
 exact ⟨r', p,h4,h.inner h1 h2 h3⟩
theorem EN.fds {w : World} {B e b : Nat} {r : Option Nat} {pos m : Nat} {ord : Value} (h : EN w B e b r pos m ord) : EN (w.setCell ⟨e,1,none⟩ (.slice none 0 0)) B e b r pos m ord ∧ Fr w (w.setCell ⟨e,1,none⟩ (.slice none 0 0)) (EX e b r):=
 ⟨⟨heap_setCell_same w e 1 _ 79 _ h.en,h.bf.move (Below.heap_setCell w ⟨e,1,none⟩ _ b (Ne.symm h.ne)) (fun g hg => Below.heap_setCell w ⟨e,1,none⟩ _ g (fun q => h.re (by rw [← (show g = e from q)]; exact hg))),h.ne,h.he,h.hb,h.hr,by rw [World.size_setCell]; exact h.hw,h.lp,h.lm⟩,(Fr.refl w _).set _ _ (.inl (.inl rfl))⟩
theorem D2.start {w W W' : World} {B e b : Nat} {r0 r : Option Nat} {ord V S : Value} {pos m off : Nat} (h : St w B e b r0 ord V S W r pos m) (ho : off ≤ 200000000000) (hb : Below W.heap.size W W') (aeY : W'.heap[W.heap.size]? = some (.cells #[.slice none 0 0,.int .i64 0,.int .i8 0] 53 (0,0))) (e1 : Nat) (Lb : W.heap.size < e1) (z7 : W'.heap[e1]? = some (.cells #[.iface 56 (.pointer (some ⟨W.heap.size,0,none⟩)),.slice none 0 0,ord,.int .i64 (off : Int)] 79 (0,0))) : D2 w B e b r0 ord V S W.heap.size e1 W.heap.size W' r pos m none off 0 := by
 refine ⟨h.up hb,⟨z7,.inl ⟨rfl,rfl,0,aeY⟩,by omega,by omega,Nat.le_refl _,fun g hg => absurd hg (by simp),hb.size,ho,by omega⟩,h.lt,?_⟩
 rintro k hk hx
 have := h.en.lt k hx
 rcases hk with rfl | rfl | hk
 · omega
 · omega
 · cases hk
theorem Dx (w : World) (b : Nat) (off : Int) (ord : Value) (ho : iP ord) : Calls Tryz.prog 31 #[.iface 56 (.pointer (some ⟨b,0,none⟩)),.int .i64 off,ord,.slice none 0 0] w fun e w' => e = .returned (.pointer (some ⟨w.heap.size,0,none⟩)) ∧ w' = w.alloc (.cells #[.iface 56 (.pointer (some ⟨b,0,none⟩)),.slice none 0 0,ord,.int .i64 off] 79) := by
 rcases ho with rfl | rfl <;>
 · go_enter Tryz.func31,Tryz.ntmps31
   go_wp2
   go_ret
   exact ⟨rfl,rfl⟩
def cB (f : Func) : Code := match f.body with
 | some c => c
 | none => .skip
def cl : Code → Code
 | .seq a _ => a
 | c => c
def cr : Code → Code
 | .seq _ b => b
 | c => c
def cb : Code → Code
 | .block _ b => b
 | c => c
def ct : Code → Code
 | .cond _ a _ => a
 | c => c
def ce : Code → Code
 | .cond _ _ b => b
 | c => c
def cp : Code → Code
 | .loop a => a
 | c => c
theorem r67 (w W : World) (B e b : Nat) (r0 r : Option Nat) (ord V : Value) (S : ByteArray) (pos m n1 al off : Nat) (hV : V.oneCell' = true) (hN : St w B e b r0 ord V (.string S) W r pos m) (gM : al = 1 ∨ al = 2 ∨ al = 4 ∨ al = 8) (iK : n1 ≤ 20) (hoff : off = pos + n1 + pd (pos + n1) al) (E : ByteArray)
 (hEL : ∀ W,Calls Tryz.prog 74 #[.string S] W fun e w' => e = .returned (.string E) ∧ Below W.heap.size W w') (AE : ∀ W,Calls Tryz.prog 60 #[.string E] W fun e w' => e = .returned (.int .i64 (al : Int)) ∧ Below W.heap.size W w')
 {u1 u2 u3 u5 u6 u7 u8 u9 xo xn xm xl xk u16 AS zq xj xi xh xg xf xe xd xb xa wZ wY wX wW u32 C9 AR zp wV wU wT wS wR wQ wP wO zo zn zm zl zj zi zh zg zf ze zd zc zb wN wM wL wK wJ wI wH u64 wG wF wD wC wz wy wx wv wu wq wo wk wj wi wh wg we v' vZ vY vX vW vV vU vT vS vR vQ vP vO vN AQ AP AO AN vh vg vf ve vd va uZ uY uX uW uV uU uT uS uR uQ uP uO uN uM uL uK uJ uI uH uG uF uE uD uC uB uA uz uy uw uv uu ur uq uo um uj ui uh ug uf ue ud uc ub ua tZ tY tX tW tV tU tT tS tR tQ tP tO tN tM tL tK tJ tI tH tG tF tE tD tC tB tA tz tx tw tv tu tr tq tp tn tl tk tj ti th tg tf td tc tb ta s' s9 s8 sZ sY sX sW sV sU sT sS sR sQ sP sO sN sM sL sK sJ sI sH sG sF sE sD sC sB sA sy sx sw su ss sr sq sn sm sj si sg se sd sc sb sa r6 rZ rY rX rW rV rU rT rS rR rQ rP rO rN rM rL rK rJ rI rH rG rF rE rD rC rB rA rz ry rv ru rq rp rm rl rk rj ri rh rf q' qZ qY qX qW qV qU qT qS qR qQ qP qO qN yL yK yJ yI yH yG yF yE yD yC yB yA yz yy yx yw yv yu yt yr yq yp yo yn ym qM qL qK qJ qI qH qG qF qE qD qC qB qA qz qy qx qw qv qu qt qq qp qo qn qm ql qk qj qi qh qg qf qe qd qc qb qa p' p8 pZ pY pX pW pV pU pT pS pR pQ pP pO pN pM pL pK pJ pI pH pG pF pE pD pC pB pA py px pw pt pr pq po pn pk pj ph pg pf pe pc pb o9 o8 o7 o6 o5 o4 o3 o0 oZ oY oX oW oV oU oT oS oR oQ oP oO oN oM oL oK oJ oI oH oG oF oE oD oC oB oA oz oy ox ow ov ou ot oq oo om oh oe od oc ob oa n9 n7 n5 nZ nY nX nW nV nU nT nS nR nQ nP nO nN nM nL nK nJ nI nH nG nF nE nD nC nB nA nz ny nw nu nt nr nq np yl yk yj yi yh yg yf ye yd yc yb ya x' xZ xY xX xW xV xU xT xS nm nj ni nh ng nf nc nb na mZ mY mX mW mV mU mT mS mR mQ mP mO mN mM mL mK mJ mI mH mG mF mE mD mC mB mA mz my mw mu mr mq mn mm ml mj mi mh mg mf me mc mb ma l9 l8 l7 l6 l5 l4 lZ lY lX lW lV lU lT lS : Value} (Kx : Act → World → Prop) (R : Ending → World → Prop)
 (hK : ∀ (W' : World) (Ya X' X9 X8 X7 X6 X5 X4 X3 X2 X1 X0 XZ XY : Value),St w B e b r0 ord V (.string S) W' r pos m → Kx ⟨List.toArray (.pointer (some ⟨e,0,none⟩)::u1::u2::u3::.pointer (some ⟨w.heap.size,0,none⟩)::u5::u6::u7::u8::u9::xo::xn::xm::xl::xk::.int .i64 (n1 : Int)::.int .i64 (off : Int)::AS::zq::xj::xi::xh::xg::xf::xe::xd::xb::xa::wZ::wY::wX::wW::u32::C9::AR::zp::wV::wU::wT::wS::wR::wQ::wP::wO::zo::zn::zm::zl::zj::zi::zh::zg::zf::ze::zd::zc::zb::wN::wM::wL::wK::wJ::wI::wH::u64::wG::wF::wD::wC::wz::wy::wx::wv::wu::wq::wo::wk::wj::wi::wh::wg::we::v'::vZ::vY::vX::vW::vV::vU::vT::vS::vR::vQ::vP::vO::vN::AQ::AP::AO::AN::vh::vg::vf::ve::vd::va::uZ::uY::uX::uW::uV::uU::uT::uS::uR::uQ::uP::uO::uN::uM::uL::uK::uJ::uI::uH::uG::uF::uE::uD::uC::uB::uA::uz::uy::uw::uv::uu::ur::uq::uo::um::uj::ui::uh::ug::uf::ue::ud::uc::ub::ua::tZ::tY::tX::tW::tV::tU::tT::tS::tR::tQ::tP::tO::tN::tM::tL::tK::tJ::tI::tH::tG::tF::tE::tD::tC::tB::tA::tz::tx::tw::tv::tu::tr::tq::tp::tn::tl::tk::tj::ti::th::tg::tf::td::tc::tb::ta::s'::s9::s8::sZ::sY::sX::sW::sV::sU::sT::sS::sR::sQ::sP::sO::sN::sM::sL::sK::sJ::sI::sH::sG::sF::sE::sD::sC::sB::sA::sy::sx::sw::su::ss::sr::sq::sn::sm::sj::si::sg::se::sd::sc::sb::sa::r6::rZ::rY::rX::rW::rV::rU::rT::rS::rR::rQ::rP::rO::rN::rM::rL::rK::rJ::rI::rH::rG::rF::rE::rD::rC::rB::rA::rz::ry::rv::ru::rq::rp::rm::rl::rk::rj::ri::rh::rf::q'::qZ::qY::qX::qW::qV::qU::qT::qS::qR::qQ::qP::qO::qN::Ya::X'::X9::X8::X7::X6::X5::X4::X3::X2::X1::X0::XZ::XY::yx::yw::yv::yu::yt::yr::yq::yp::yo::yn::ym::qM::qL::qK::qJ::qI::qH::qG::qF::qE::qD::qC::qB::qA::qz::qy::qx::qw::qv::qu::qt::qq::qp::qo::qn::qm::ql::qk::qj::qi::qh::qg::qf::qe::qd::qc::qb::qa::p'::p8::pZ::pY::pX::pW::pV::pU::pT::pS::pR::pQ::pP::pO::pN::pM::pL::pK::pJ::pI::pH::pG::pF::pE::pD::pC::pB::pA::py::px::pw::pt::pr::pq::po::pn::pk::pj::ph::pg::pf::pe::pc::pb::o9::o8::o7::o6::o5::o4::o3::o0::oZ::oY::oX::oW::oV::oU::oT::oS::oR::oQ::oP::oO::oN::oM::oL::oK::oJ::oI::oH::oG::oF::oE::oD::oC::oB::oA::oz::oy::ox::ow::ov::ou::ot::oq::oo::om::oh::oe::od::oc::ob::oa::n9::n7::n5::nZ::nY::nX::nW::nV::nU::nT::nS::nR::nQ::nP::nO::nN::nM::nL::nK::nJ::nI::nH::nG::nF::nE::nD::nC::nB::nA::nz::ny::nw::nu::nt::nr::nq::np::yl::yk::yj::yi::yh::yg::yf::ye::yd::yc::yb::ya::x'::xZ::xY::xX::xW::xV::xU::xT::xS::nm::nj::ni::nh::ng::nf::nc::nb::na::mZ::mY::mX::mW::mV::mU::mT::mS::mR::mQ::mP::mO::mN::mM::mL::mK::mJ::mI::mH::mG::mF::mE::mD::mC::mB::mA::mz::my::mw::mu::mr::mq::mn::mm::ml::mj::mi::mh::mg::mf::me::mc::mb::ma::l9::l8::l7::l6::l5::l4::lZ::lY::lX::lW::lV::lU::lT::lS::[]),[]⟩ W') :
 Code.wp Tryz.prog (cl (cr (ct (cr (ce (cr (ce (cr (ce (cr (ce (cr (ce (cr (ce (cr (ce (cr (ce (cr (ce (cr (ce (cr (ce (cr (cb (cr (cr (cr (cr (cB Tryz.f47)))))))))))))))))))))))))))))))) (Exit.then Kx (Exit.inBlock 0 (bodyPost Tryz.prog Tryz.f47 R))) ⟨List.toArray (.pointer (some ⟨e,0,none⟩)::u1::u2::u3::.pointer (some ⟨w.heap.size,0,none⟩)::u5::u6::u7::u8::u9::xo::xn::xm::xl::xk::.int .i64 (n1 : Int)::u16::AS::zq::xj::xi::xh::xg::xf::xe::xd::xb::xa::wZ::wY::wX::wW::u32::C9::AR::zp::wV::wU::wT::wS::wR::wQ::wP::wO::zo::zn::zm::zl::zj::zi::zh::zg::zf::ze::zd::zc::zb::wN::wM::wL::wK::wJ::wI::wH::u64::wG::wF::wD::wC::wz::wy::wx::wv::wu::wq::wo::wk::wj::wi::wh::wg::we::v'::vZ::vY::vX::vW::vV::vU::vT::vS::vR::vQ::vP::vO::vN::AQ::AP::AO::AN::vh::vg::vf::ve::vd::va::uZ::uY::uX::uW::uV::uU::uT::uS::uR::uQ::uP::uO::uN::uM::uL::uK::uJ::uI::uH::uG::uF::uE::uD::uC::uB::uA::uz::uy::uw::uv::uu::ur::uq::uo::um::uj::ui::uh::ug::uf::ue::ud::uc::ub::ua::tZ::tY::tX::tW::tV::tU::tT::tS::tR::tQ::tP::tO::tN::tM::tL::tK::tJ::tI::tH::tG::tF::tE::tD::tC::tB::tA::tz::tx::tw::tv::tu::tr::tq::tp::tn::tl::tk::tj::ti::th::tg::tf::td::tc::tb::ta::s'::s9::s8::sZ::sY::sX::sW::sV::sU::sT::sS::sR::sQ::sP::sO::sN::sM::sL::sK::sJ::sI::sH::sG::sF::sE::sD::sC::sB::sA::sy::sx::sw::su::ss::sr::sq::sn::sm::sj::si::sg::se::sd::sc::sb::sa::r6::rZ::rY::rX::rW::rV::rU::rT::rS::rR::rQ::rP::rO::rN::rM::rL::rK::rJ::rI::rH::rG::rF::rE::rD::rC::rB::rA::rz::ry::rv::ru::rq::rp::rm::rl::rk::rj::ri::rh::rf::q'::qZ::qY::qX::qW::qV::qU::qT::qS::qR::qQ::qP::qO::qN::yL::yK::yJ::yI::yH::yG::yF::yE::yD::yC::yB::yA::yz::yy::yx::yw::yv::yu::yt::yr::yq::yp::yo::yn::ym::qM::qL::qK::qJ::qI::qH::qG::qF::qE::qD::qC::qB::qA::qz::qy::qx::qw::qv::qu::qt::qq::qp::qo::qn::qm::ql::qk::qj::qi::qh::qg::qf::qe::qd::qc::qb::qa::p'::p8::pZ::pY::pX::pW::pV::pU::pT::pS::pR::pQ::pP::pO::pN::pM::pL::pK::pJ::pI::pH::pG::pF::pE::pD::pC::pB::pA::py::px::pw::pt::pr::pq::po::pn::pk::pj::ph::pg::pf::pe::pc::pb::o9::o8::o7::o6::o5::o4::o3::o0::oZ::oY::oX::oW::oV::oU::oT::oS::oR::oQ::oP::oO::oN::oM::oL::oK::oJ::oI::oH::oG::oF::oE::oD::oC::oB::oA::oz::oy::ox::ow::ov::ou::ot::oq::oo::om::oh::oe::od::oc::ob::oa::n9::n7::n5::nZ::nY::nX::nW::nV::nU::nT::nS::nR::nQ::nP::nO::nN::nM::nL::nK::nJ::nI::nH::nG::nF::nE::nD::nC::nB::nA::nz::ny::nw::nu::nt::nr::nq::np::yl::yk::yj::yi::yh::yg::yf::ye::yd::yc::yb::ya::x'::xZ::xY::xX::xW::xV::xU::xT::xS::nm::nj::ni::nh::ng::nf::nc::nb::na::mZ::mY::mX::mW::mV::mU::mT::mS::mR::mQ::mP::mO::mN::mM::mL::mK::mJ::mI::mH::mG::mF::mE::mD::mC::mB::mA::mz::my::mw::mu::mr::mq::mn::mm::ml::mj::mi::mh::mg::mf::me::mc::mb::ma::l9::l8::l7::l6::l5::l4::lZ::lY::lX::lW::lV::lU::lT::lS::[]),[]⟩ W := by
 have Zo := hN.en.lp
 have h7 := dZ (x := pos + n1) gM
 obtain ⟨l1,Er⟩ : ∃ l1,pos + n1 = l1 := ⟨_,rfl⟩
 obtain ⟨p1,Bw⟩ : ∃ p1,pd (pos + n1) al = p1 := ⟨_,rfl⟩
 rw [Bw] at h7 hoff
 have Oj : IntKind.i64.wrap ((pos : Int) + (n1 : Int)) = (l1 : Int) := by rw [IntKind.wrap_i64]; omega
 have Bq : IntKind.i64.wrap ((l1 : Int) + (p1 : Int)) = (off : Int) := by rw [IntKind.wrap_i64]; omega
 have kZ := U.mk Bw
 have ND := U.mk (hN.up (ak (Below.refl _ _)))
 have ud0 := ND.out.x0
 have ud1 := ND.out.x1
 have ud3 := ND.out.en.c3
 have HK := U.mk hK
 have HT := U.mk (fun W => bC V hV S W)
 have HE := U.mk hEL
 have HA := U.mk AE
 have BU := U.mk gM
 clear hN hK Zo h7 hoff gM Er Bw hEL AE
 dsimp only [cl,cr,ct,ce,cb,cB,Tryz.f47]
 go_region_with (first
  | (go_at_call 61; refine (HT.out _).mono ?_; rintro e1 w7 ⟨rfl,hb⟩; have NP := U.mk (ND.out.up hb); have p3 := NP.out.en.c3; clear hb)
  | (go_at_call 74; refine (HE.out _).mono ?_; rintro e1 w8 ⟨rfl,hb⟩; have NP := U.mk (NP.out.up hb); have p3 := NP.out.en.c3; clear hb)
  | (go_at_call 60; refine (HA.out _).mono ?_; rintro e1 w9 ⟨rfl,hb⟩; have NP := U.mk (NP.out.up hb); have p3 := NP.out.en.c3; clear hb)
  | (go_at_call 73; refine (kO NP.out.en n1 al BU.out (by omega)).mono ?_; rw [kZ.out]; rintro e1 ki ⟨rfl,rfl⟩))
 all_goals first
  | (go_wp2; exact HK.out _ _ _ _ _ _ _ _ _ _ _ _ _ _ _ NP.out)
  | (go_simp; exact HK.out _ _ _ _ _ _ _ _ _ _ _ _ _ _ _ NP.out)
theorem aew (off : Nat) (W : World) (e bi : Nat) (a0 a3 ord : Value) (ho : iP ord) (he : W.heap[e]? = some (.cells #[a0,.slice none 0 0,ord,a3] 79 (0,0)))
 {u1 u2 u3 u4 u5 u6 u7 u8 u9 xo xn xm xl xk AU u16 AS zq xj xi xh xg xf xe xd xb xa wZ wY wX wW u32 zp wV wU wT wS wR wQ wP wO zo zn zm zl zj zi zh zg zf ze zd zc zb wN wM wL wK wJ wI wH u64 wG wF wD wC wz wy wx wv wu wq wo wk wj wi wh wg we v' vZ vY vX vW vV vU vT vS vR vQ vP vO vN AQ AP AO AN vh vg vf ve vd va uZ uY uX uW uV uU uT uS uR uQ uP uO uN uM uL uK uJ uI uH uG uF uE uD uC uB uA uz uy uw uv uu ur uq uo um uj ui uh ug uf ue ud uc ub ua tZ tY tX tW tV tU tT tS tR tQ tP tO tN tM tL tK tJ tI tH tG tF tE tD tC tB tA tz tx tw tv tu tr tq tp tn tl tk tj ti th tg tf td tc tb ta s' s9 s8 sZ sY sX sW sV sU sT sS sR sQ sP sO sN sM sL sK sJ sI sH sG sF sE sD sC sB sA sy sx sw su ss sr sq sn sm sj si sg se sd sc sb sa r6 rZ rY rX rW rV rU rT rS rR rQ rP rO rN rM rL rK rJ rI rH rG rF rE rD rC rB rA rz ry rv ru rq rp rm rl rk rj ri rh rf q' qZ qY qX qW qV qU qT qS qR qQ qP qO qN yL yK yJ yI yH yG yF yE yD yC yB yA yz yy yx yw yv yu yt yr yq yp yo yn ym qM qL qK qJ qI qH qG qF qE qD qC qB qA qz qy qx qw qv qu qt qq qp qo qn qm ql qk qj qi qh qg qf qe qd qc qb qa p' p8 pZ pY pX pW pV pU pT pS pR pQ pP pO pN pM pL pK pJ pI pH pG pF pE pD pC pB pA py px pw pt pr pq po pn pk pj ph pg pf pe pc pb o9 o8 o7 o6 o5 o4 o3 o0 oZ oY oX oW oV oU oT oS oR oQ oP oO oN oM oL oK oJ oI oH oG oF oE oD oC oB oA oz oy ox ow ov ou ot oq oo om oh oe od oc ob oa n9 n7 n5 nZ nY nX nW nV nU nT nS nR nQ nP nO nN nM nL nK nJ nI nH nG nF nE nD nC nB nA nz ny nw nu nt nr nq np yl yk yj yi yh yg yf ye yd yc yb ya x' xZ xY xX xW xV xU xT xS nm nj ni nh ng nf nc nb na mZ mY mX mW mV mU mT mS mR mQ mP mO mN mM mL mK mJ mI mH mG mF mE mD mC mB mA mz my mw mu mr mq mn mm ml mj mi mh mg mf me mc mb ma l9 l8 l7 l6 l5 l4 lZ lY lX lW lV lU lT lS : Value} (Kx : Act → World → Prop) (R : Ending → World → Prop)
 (hK : ∀ (W' : World) (XC XB XA Xz Xy Xx Xw Xv Xu Xt Xs : Value),Below W.heap.size W W' → W'.heap[W.heap.size]? = some (.cells #[.iface 56 (.pointer (some ⟨bi,0,none⟩)),.slice none 0 0,ord,.int .i64 (off : Int)] 79 (0,0)) → Kx ⟨List.toArray (.pointer (some ⟨e,0,none⟩)::u1::u2::u3::u4::u5::u6::u7::u8::u9::xo::xn::xm::xl::xk::AU::u16::AS::zq::xj::xi::xh::xg::xf::xe::xd::xb::xa::wZ::wY::wX::wW::u32::.int .i64 (off : Int)::.pointer (some ⟨bi,0,none⟩)::.pointer (some ⟨W.heap.size,0,none⟩)::wV::wU::wT::wS::wR::wQ::wP::wO::zo::zn::zm::zl::zj::zi::zh::zg::zf::ze::zd::zc::zb::wN::wM::wL::wK::wJ::wI::wH::u64::wG::wF::wD::wC::wz::wy::wx::wv::wu::wq::wo::wk::wj::wi::wh::wg::we::v'::vZ::vY::vX::vW::vV::vU::vT::vS::vR::vQ::vP::vO::vN::AQ::AP::AO::AN::vh::vg::vf::ve::vd::va::uZ::uY::uX::uW::uV::uU::uT::uS::uR::uQ::uP::uO::uN::uM::uL::uK::uJ::uI::uH::uG::uF::uE::uD::uC::uB::uA::uz::uy::uw::uv::uu::ur::uq::uo::um::uj::ui::uh::ug::uf::ue::ud::uc::ub::ua::tZ::tY::tX::tW::tV::tU::tT::tS::tR::tQ::tP::tO::tN::tM::tL::tK::tJ::tI::tH::tG::tF::tE::tD::tC::tB::tA::tz::tx::tw::tv::tu::tr::tq::tp::tn::tl::tk::tj::ti::th::tg::tf::td::tc::tb::ta::s'::s9::s8::sZ::sY::sX::sW::sV::sU::sT::sS::sR::sQ::sP::sO::sN::sM::sL::sK::sJ::sI::sH::sG::sF::sE::sD::sC::sB::sA::sy::sx::sw::su::ss::sr::sq::sn::sm::sj::si::sg::se::sd::sc::sb::sa::r6::rZ::rY::rX::rW::rV::rU::rT::rS::rR::rQ::rP::rO::rN::rM::rL::rK::rJ::rI::rH::rG::rF::rE::rD::rC::rB::rA::rz::ry::rv::ru::rq::rp::rm::rl::rk::rj::ri::rh::rf::q'::qZ::qY::qX::qW::qV::qU::qT::qS::qR::qQ::qP::qO::qN::yL::yK::yJ::yI::yH::yG::yF::yE::yD::yC::yB::yA::yz::yy::yx::yw::yv::yu::yt::yr::yq::yp::yo::yn::ym::qM::qL::qK::qJ::qI::qH::qG::qF::qE::qD::qC::qB::qA::qz::qy::qx::qw::qv::qu::qt::qq::qp::qo::qn::qm::ql::qk::qj::qi::qh::qg::qf::qe::qd::qc::qb::qa::p'::p8::pZ::pY::pX::pW::pV::pU::pT::pS::pR::pQ::pP::pO::pN::pM::pL::pK::pJ::pI::pH::pG::pF::pE::pD::pC::pB::pA::py::px::pw::pt::pr::pq::po::pn::pk::pj::ph::pg::pf::pe::pc::pb::o9::o8::o7::o6::o5::o4::o3::o0::oZ::oY::oX::oW::oV::oU::oT::oS::oR::oQ::oP::oO::oN::oM::oL::oK::oJ::oI::oH::oG::oF::oE::oD::oC::oB::oA::oz::oy::ox::ow::ov::ou::ot::oq::oo::om::oh::oe::od::oc::ob::oa::n9::n7::n5::nZ::nY::nX::nW::nV::nU::nT::nS::nR::nQ::nP::nO::nN::nM::nL::nK::nJ::nI::nH::nG::nF::nE::nD::nC::nB::nA::nz::ny::nw::nu::nt::nr::nq::np::yl::yk::yj::yi::yh::yg::yf::ye::yd::yc::XC::XB::XA::Xz::Xy::Xx::Xw::Xv::Xu::Xt::Xs::nm::nj::ni::nh::ng::nf::nc::nb::na::mZ::mY::mX::mW::mV::mU::mT::mS::mR::mQ::mP::mO::mN::mM::mL::mK::mJ::mI::mH::mG::mF::mE::mD::mC::mB::mA::mz::my::mw::mu::mr::mq::mn::mm::ml::mj::mi::mh::mg::mf::me::mc::mb::ma::l9::l8::l7::l6::l5::l4::lZ::lY::lX::lW::lV::lU::lT::lS::[]),[]⟩ W') :
 Code.wp Tryz.prog (cl (cr (cr (cr (cr (cr (ct (cr (ce (cr (ce (cr (ce (cr (ce (cr (ce (cr (ce (cr (ce (cr (ce (cr (ce (cr (ce (cr (ce (cr (ce (cr (ce (cr (cb (cr (cr (cr (cr (cB Tryz.f47)))))))))))))))))))))))))))))))))))))))) (Exit.then Kx (Exit.inBlock 0 (bodyPost Tryz.prog Tryz.f47 R))) ⟨List.toArray (.pointer (some ⟨e,0,none⟩)::u1::u2::u3::u4::u5::u6::u7::u8::u9::xo::xn::xm::xl::xk::AU::u16::AS::zq::xj::xi::xh::xg::xf::xe::xd::xb::xa::wZ::wY::wX::wW::u32::.int .i64 (off : Int)::.pointer (some ⟨bi,0,none⟩)::zp::wV::wU::wT::wS::wR::wQ::wP::wO::zo::zn::zm::zl::zj::zi::zh::zg::zf::ze::zd::zc::zb::wN::wM::wL::wK::wJ::wI::wH::u64::wG::wF::wD::wC::wz::wy::wx::wv::wu::wq::wo::wk::wj::wi::wh::wg::we::v'::vZ::vY::vX::vW::vV::vU::vT::vS::vR::vQ::vP::vO::vN::AQ::AP::AO::AN::vh::vg::vf::ve::vd::va::uZ::uY::uX::uW::uV::uU::uT::uS::uR::uQ::uP::uO::uN::uM::uL::uK::uJ::uI::uH::uG::uF::uE::uD::uC::uB::uA::uz::uy::uw::uv::uu::ur::uq::uo::um::uj::ui::uh::ug::uf::ue::ud::uc::ub::ua::tZ::tY::tX::tW::tV::tU::tT::tS::tR::tQ::tP::tO::tN::tM::tL::tK::tJ::tI::tH::tG::tF::tE::tD::tC::tB::tA::tz::tx::tw::tv::tu::tr::tq::tp::tn::tl::tk::tj::ti::th::tg::tf::td::tc::tb::ta::s'::s9::s8::sZ::sY::sX::sW::sV::sU::sT::sS::sR::sQ::sP::sO::sN::sM::sL::sK::sJ::sI::sH::sG::sF::sE::sD::sC::sB::sA::sy::sx::sw::su::ss::sr::sq::sn::sm::sj::si::sg::se::sd::sc::sb::sa::r6::rZ::rY::rX::rW::rV::rU::rT::rS::rR::rQ::rP::rO::rN::rM::rL::rK::rJ::rI::rH::rG::rF::rE::rD::rC::rB::rA::rz::ry::rv::ru::rq::rp::rm::rl::rk::rj::ri::rh::rf::q'::qZ::qY::qX::qW::qV::qU::qT::qS::qR::qQ::qP::qO::qN::yL::yK::yJ::yI::yH::yG::yF::yE::yD::yC::yB::yA::yz::yy::yx::yw::yv::yu::yt::yr::yq::yp::yo::yn::ym::qM::qL::qK::qJ::qI::qH::qG::qF::qE::qD::qC::qB::qA::qz::qy::qx::qw::qv::qu::qt::qq::qp::qo::qn::qm::ql::qk::qj::qi::qh::qg::qf::qe::qd::qc::qb::qa::p'::p8::pZ::pY::pX::pW::pV::pU::pT::pS::pR::pQ::pP::pO::pN::pM::pL::pK::pJ::pI::pH::pG::pF::pE::pD::pC::pB::pA::py::px::pw::pt::pr::pq::po::pn::pk::pj::ph::pg::pf::pe::pc::pb::o9::o8::o7::o6::o5::o4::o3::o0::oZ::oY::oX::oW::oV::oU::oT::oS::oR::oQ::oP::oO::oN::oM::oL::oK::oJ::oI::oH::oG::oF::oE::oD::oC::oB::oA::oz::oy::ox::ow::ov::ou::ot::oq::oo::om::oh::oe::od::oc::ob::oa::n9::n7::n5::nZ::nY::nX::nW::nV::nU::nT::nS::nR::nQ::nP::nO::nN::nM::nL::nK::nJ::nI::nH::nG::nF::nE::nD::nC::nB::nA::nz::ny::nw::nu::nt::nr::nq::np::yl::yk::yj::yi::yh::yg::yf::ye::yd::yc::yb::ya::x'::xZ::xY::xX::xW::xV::xU::xT::xS::nm::nj::ni::nh::ng::nf::nc::nb::na::mZ::mY::mX::mW::mV::mU::mT::mS::mR::mQ::mP::mO::mN::mM::mL::mK::mJ::mI::mH::mG::mF::mE::mD::mC::mB::mA::mz::my::mw::mu::mr::mq::mn::mm::ml::mj::mi::mh::mg::mf::me::mc::mb::ma::l9::l8::l7::l6::l5::l4::lZ::lY::lX::lW::lV::lU::lT::lS::[]),[]⟩ W := by
 have e1 : W.cell? ⟨e,1,none⟩ = some (.slice none 0 0) := (cell_of_row W e 1 _ 79 (0,0) he).trans rfl
 have e2 : W.cell? ⟨e,2,none⟩ = some ord := (cell_of_row W e 2 _ 79 (0,0) he).trans rfl
 have e1d : W.drew.cell? ⟨e,1,none⟩ = some (.slice none 0 0) := e1
 have e2d : W.drew.cell? ⟨e,2,none⟩ = some ord := e2
 have HK := U.mk hK
 have HN := U.mk (Dx W.drew bi (off : Int) ord ho)
 clear he hK ho
 dsimp only [cl,cr,ct,ce,cb,cB,Tryz.f47]
 go_region_with (go_at_call 31; refine HN.out.mono ?_; rintro e1 w9 ⟨rfl,rfl⟩)
 all_goals first
  | (go_wp2; exact HK.out _ _ _ _ _ _ _ _ _ _ _ _ (ab (ak (Below.refl _ _)) _) (heap_alloc_new W.drew _))
theorem r69 (off : Nat) (W : World) (e bi : Nat) (a0 a3 ord : Value) (ho : iP ord) (he : W.heap[e]? = some (.cells #[a0,.slice none 0 0,ord,a3] 79 (0,0)))
 {u1 u2 u3 u4 u5 u6 u7 u8 u9 xo xn xm xl xk AU zq xj xi xh xg xf xe xd xb xa wZ wY wX wW u32 C9 AR zp wV wU wT wS wR wQ wP wO zo zn zm zl zj zi zh zg zf ze zd zc zb wN wM wL wK wJ wI wH u64 wG wF wD wC wz wy wx wv wu wq wo wk wj wi wh wg we v' vZ vY vX vW vV vU vT vS vR vQ vP vO vN AQ AP AO AN vh vg vf ve vd va uZ uY uX uW uV uU uT uS uR uQ uP uO uN uM uL uK uJ uI uH uG uF uE uD uC uB uA uz uy uw uv uu ur uq uo um uj ui uh ug uf ue ud uc ub ua tZ tY tX tW tV tU tT tS tR tQ tP tO tN tM tL tK tJ tI tH tG tF tE tD tC tB tA tz tx tw tv tu tr tq tp tn tl tk tj ti th tg tf td tc tb ta s' s9 s8 sZ sY sX sW sV sU sT sS sR sQ sP sO sN sM sL sK sJ sI sH sG sF sE sD sC sB sA sy sx sw su ss sr sq sn sm sj si sg se sd sc sb sa r6 rZ rY rX rW rV rU rT rS rR rQ rP rO rN rM rL rK rJ rI rH rG rF rE rD rC rB rA rz ry rv ru rq rp rm rl rk rj ri rh rf q' qZ qY qX qW qV qU qT qS qR qQ qP qO qN yL yK yJ yI yH yG yF yE yD yC yB yA yz yy yx yw yv yu yt yr yq yp yo yn ym qM qL qK qJ qI qH qG qF qE qD qC qB qA qz qy qx qw qv qu qt qq qp qo qn qm ql qk qj qi qh qg qf qe qd qc qb qa p' p8 pZ pY pX pW pV pU pT pS pR pQ pP pO pN pM pL pK pJ pI pH pG pF pE pD pC pB pA py px pw pt pr pq po pn pk pj ph pg pf pe pc pb o9 o8 o7 o6 o5 o4 o3 o0 oZ oY oX oW oV oU oT oS oR oQ oP oO oN oM oL oK oJ oI oH oG oF oE oD oC oB oA oz oy ox ow ov ou ot oq oo om oh oe od oc ob oa n9 n7 n5 nZ nY nX nW nV nU nT nS nR nQ nP nO nN nM nL nK nJ nI nH nG nF nE nD nC nB nA nz ny nw nu nt nr nq np yl yk yj yi yh yg yf ye yd yc yb ya x' xZ xY xX xW xV xU xT xS nm nj ni nh ng nf nc nb na mZ mY mX mW mV mU mT mS mR mQ mP mO mN mM mL mK mJ mI mH mG mF mE mD mC mB mA mz my mw mu mr mq mn mm ml mj mi mh mg mf me mc mb ma l9 l8 l7 l6 l5 l4 lZ lY lX lW lV lU lT lS : Value} (Kx : Act → World → Prop) (R : Ending → World → Prop)
 (hK : ∀ (W' : World) (XX XW XV XU XT XS XR XQ XP XO XN : Value),Below W.heap.size W W' → W'.heap[W.heap.size]? = some (.cells #[.iface 56 (.pointer (some ⟨bi,0,none⟩)),.slice none 0 0,ord,.int .i64 (off : Int)] 79 (0,0)) → Kx ⟨List.toArray (.pointer (some ⟨e,0,none⟩)::u1::u2::u3::u4::u5::u6::u7::u8::u9::xo::xn::xm::xl::xk::AU::.int .i64 (off : Int)::.pointer (some ⟨bi,0,none⟩)::.pointer (some ⟨W.heap.size,0,none⟩)::xj::xi::xh::xg::xf::xe::xd::xb::xa::wZ::wY::wX::wW::u32::C9::AR::zp::wV::wU::wT::wS::wR::wQ::wP::wO::zo::zn::zm::zl::zj::zi::zh::zg::zf::ze::zd::zc::zb::wN::wM::wL::wK::wJ::wI::wH::u64::wG::wF::wD::wC::wz::wy::wx::wv::wu::wq::wo::wk::wj::wi::wh::wg::we::v'::vZ::vY::vX::vW::vV::vU::vT::vS::vR::vQ::vP::vO::vN::AQ::AP::AO::AN::vh::vg::vf::ve::vd::va::uZ::uY::uX::uW::uV::uU::uT::uS::uR::uQ::uP::uO::uN::uM::uL::uK::uJ::uI::uH::uG::uF::uE::uD::uC::uB::uA::uz::uy::uw::uv::uu::ur::uq::uo::um::uj::ui::uh::ug::uf::ue::ud::uc::ub::ua::tZ::tY::tX::tW::tV::tU::tT::tS::tR::tQ::tP::tO::tN::tM::tL::tK::tJ::tI::tH::tG::tF::tE::tD::tC::tB::tA::tz::tx::tw::tv::tu::tr::tq::tp::tn::tl::tk::tj::ti::th::tg::tf::td::tc::tb::ta::s'::s9::s8::sZ::sY::sX::sW::sV::sU::sT::sS::sR::sQ::sP::sO::sN::sM::sL::sK::sJ::sI::sH::sG::sF::sE::sD::sC::sB::sA::sy::sx::sw::su::ss::sr::sq::sn::sm::sj::si::sg::se::sd::sc::sb::sa::r6::rZ::rY::rX::rW::rV::rU::rT::rS::rR::rQ::rP::rO::rN::rM::rL::rK::rJ::rI::rH::rG::rF::rE::rD::rC::rB::rA::rz::ry::rv::ru::rq::rp::rm::rl::rk::rj::ri::rh::rf::q'::qZ::qY::qX::qW::qV::qU::qT::qS::qR::qQ::qP::qO::qN::yL::yK::yJ::yI::yH::yG::yF::yE::yD::yC::yB::yA::yz::yy::XX::XW::XV::XU::XT::XS::XR::XQ::XP::XO::XN::qM::qL::qK::qJ::qI::qH::qG::qF::qE::qD::qC::qB::qA::qz::qy::qx::qw::qv::qu::qt::qq::qp::qo::qn::qm::ql::qk::qj::qi::qh::qg::qf::qe::qd::qc::qb::qa::p'::p8::pZ::pY::pX::pW::pV::pU::pT::pS::pR::pQ::pP::pO::pN::pM::pL::pK::pJ::pI::pH::pG::pF::pE::pD::pC::pB::pA::py::px::pw::pt::pr::pq::po::pn::pk::pj::ph::pg::pf::pe::pc::pb::o9::o8::o7::o6::o5::o4::o3::o0::oZ::oY::oX::oW::oV::oU::oT::oS::oR::oQ::oP::oO::oN::oM::oL::oK::oJ::oI::oH::oG::oF::oE::oD::oC::oB::oA::oz::oy::ox::ow::ov::ou::ot::oq::oo::om::oh::oe::od::oc::ob::oa::n9::n7::n5::nZ::nY::nX::nW::nV::nU::nT::nS::nR::nQ::nP::nO::nN::nM::nL::nK::nJ::nI::nH::nG::nF::nE::nD::nC::nB::nA::nz::ny::nw::nu::nt::nr::nq::np::yl::yk::yj::yi::yh::yg::yf::ye::yd::yc::yb::ya::x'::xZ::xY::xX::xW::xV::xU::xT::xS::nm::nj::ni::nh::ng::nf::nc::nb::na::mZ::mY::mX::mW::mV::mU::mT::mS::mR::mQ::mP::mO::mN::mM::mL::mK::mJ::mI::mH::mG::mF::mE::mD::mC::mB::mA::mz::my::mw::mu::mr::mq::mn::mm::ml::mj::mi::mh::mg::mf::me::mc::mb::ma::l9::l8::l7::l6::l5::l4::lZ::lY::lX::lW::lV::lU::lT::lS::[]),[]⟩ W') :
 Code.wp Tryz.prog (cl (cr (cr (cr (ct (cr (ce (cr (ce (cr (ce (cr (ce (cr (ce (cr (ce (cr (ce (cr (ce (cr (ce (cr (ce (cr (ce (cr (cb (cr (cr (cr (cr (cB Tryz.f47)))))))))))))))))))))))))))))))))) (Exit.then Kx (Exit.inBlock 0 (bodyPost Tryz.prog Tryz.f47 R))) ⟨List.toArray (.pointer (some ⟨e,0,none⟩)::u1::u2::u3::u4::u5::u6::u7::u8::u9::xo::xn::xm::xl::xk::AU::.int .i64 (off : Int)::.pointer (some ⟨bi,0,none⟩)::zq::xj::xi::xh::xg::xf::xe::xd::xb::xa::wZ::wY::wX::wW::u32::C9::AR::zp::wV::wU::wT::wS::wR::wQ::wP::wO::zo::zn::zm::zl::zj::zi::zh::zg::zf::ze::zd::zc::zb::wN::wM::wL::wK::wJ::wI::wH::u64::wG::wF::wD::wC::wz::wy::wx::wv::wu::wq::wo::wk::wj::wi::wh::wg::we::v'::vZ::vY::vX::vW::vV::vU::vT::vS::vR::vQ::vP::vO::vN::AQ::AP::AO::AN::vh::vg::vf::ve::vd::va::uZ::uY::uX::uW::uV::uU::uT::uS::uR::uQ::uP::uO::uN::uM::uL::uK::uJ::uI::uH::uG::uF::uE::uD::uC::uB::uA::uz::uy::uw::uv::uu::ur::uq::uo::um::uj::ui::uh::ug::uf::ue::ud::uc::ub::ua::tZ::tY::tX::tW::tV::tU::tT::tS::tR::tQ::tP::tO::tN::tM::tL::tK::tJ::tI::tH::tG::tF::tE::tD::tC::tB::tA::tz::tx::tw::tv::tu::tr::tq::tp::tn::tl::tk::tj::ti::th::tg::tf::td::tc::tb::ta::s'::s9::s8::sZ::sY::sX::sW::sV::sU::sT::sS::sR::sQ::sP::sO::sN::sM::sL::sK::sJ::sI::sH::sG::sF::sE::sD::sC::sB::sA::sy::sx::sw::su::ss::sr::sq::sn::sm::sj::si::sg::se::sd::sc::sb::sa::r6::rZ::rY::rX::rW::rV::rU::rT::rS::rR::rQ::rP::rO::rN::rM::rL::rK::rJ::rI::rH::rG::rF::rE::rD::rC::rB::rA::rz::ry::rv::ru::rq::rp::rm::rl::rk::rj::ri::rh::rf::q'::qZ::qY::qX::qW::qV::qU::qT::qS::qR::qQ::qP::qO::qN::yL::yK::yJ::yI::yH::yG::yF::yE::yD::yC::yB::yA::yz::yy::yx::yw::yv::yu::yt::yr::yq::yp::yo::yn::ym::qM::qL::qK::qJ::qI::qH::qG::qF::qE::qD::qC::qB::qA::qz::qy::qx::qw::qv::qu::qt::qq::qp::qo::qn::qm::ql::qk::qj::qi::qh::qg::qf::qe::qd::qc::qb::qa::p'::p8::pZ::pY::pX::pW::pV::pU::pT::pS::pR::pQ::pP::pO::pN::pM::pL::pK::pJ::pI::pH::pG::pF::pE::pD::pC::pB::pA::py::px::pw::pt::pr::pq::po::pn::pk::pj::ph::pg::pf::pe::pc::pb::o9::o8::o7::o6::o5::o4::o3::o0::oZ::oY::oX::oW::oV::oU::oT::oS::oR::oQ::oP::oO::oN::oM::oL::oK::oJ::oI::oH::oG::oF::oE::oD::oC::oB::oA::oz::oy::ox::ow::ov::ou::ot::oq::oo::om::oh::oe::od::oc::ob::oa::n9::n7::n5::nZ::nY::nX::nW::nV::nU::nT::nS::nR::nQ::nP::nO::nN::nM::nL::nK::nJ::nI::nH::nG::nF::nE::nD::nC::nB::nA::nz::ny::nw::nu::nt::nr::nq::np::yl::yk::yj::yi::yh::yg::yf::ye::yd::yc::yb::ya::x'::xZ::xY::xX::xW::xV::xU::xT::xS::nm::nj::ni::nh::ng::nf::nc::nb::na::mZ::mY::mX::mW::mV::mU::mT::mS::mR::mQ::mP::mO::mN::mM::mL::mK::mJ::mI::mH::mG::mF::mE::mD::mC::mB::mA::mz::my::mw::mu::mr::mq::mn::mm::ml::mj::mi::mh::mg::mf::me::mc::mb::ma::l9::l8::l7::l6::l5::l4::lZ::lY::lX::lW::lV::lU::lT::lS::[]),[]⟩ W := by
 have e1 : W.cell? ⟨e,1,none⟩ = some (.slice none 0 0) := (cell_of_row W e 1 _ 79 (0,0) he).trans rfl
 have e2 : W.cell? ⟨e,2,none⟩ = some ord := (cell_of_row W e 2 _ 79 (0,0) he).trans rfl
 have e1d : W.drew.cell? ⟨e,1,none⟩ = some (.slice none 0 0) := e1
 have e2d : W.drew.cell? ⟨e,2,none⟩ = some ord := e2
 have HK := U.mk hK
 have HN := U.mk (Dx W.drew bi (off : Int) ord ho)
 clear he hK ho
 dsimp only [cl,cr,ct,ce,cb,cB,Tryz.f47]
 go_region_with (go_at_call 31; refine HN.out.mono ?_; rintro e1 w9 ⟨rfl,rfl⟩)
 all_goals first
  | (go_wp2; exact HK.out _ _ _ _ _ _ _ _ _ _ _ _ (ab (ak (Below.refl _ _)) _) (heap_alloc_new W.drew _))
theorem D2.fin {w W W' : World} {B e b : Nat} {r0 r r1 : Option Nat} {ord V S : Value} {B1 e1 b1 pos m eO m1 p0 m0 : Nat} (h0 : EN w B e b r0 p0 m0 ord) (h : D2 w B e b r0 ord V S B1 e1 b1 W r pos m r1 eO m1) (hm : m + m1 ≤ 200000000000) {r' : Option Nat} (h1 : Bf W' b r' (m + m1)) (h2 : Rn W r r') (h3 : Fr W W' (fun k => BX b r k ∨ k = b1)) : St w B e b r0 ord V S W' r' pos (m + m1) := by
 have hb1 : EX e1 b1 r1 b1 := .inr (.inl rfl)
 have Li : B1 ≤ b1 := h.gK.hb
 have hgt := h.gt
 have hne : ¬ (BX b r e ∨ e = b1) := by
  rintro ((hx | hx) | hx)
  · exact h.st.en.ne hx
  · exact h.st.en.re hx
  · exact h.dj b1 hb1 (.inl hx.symm)
 have hle := h.st.fr.size
 refine ⟨⟨(h3.keep e h.st.en.S8 hne).trans h.st.en.en,h1,h.st.en.ne,h.st.en.he,h.st.en.hb,fun g hg => ?_,Nat.le_trans h.st.en.hw h3.size,h.st.en.lp,hm⟩,(h3.keep _ h.st.lt ?_).trans h.st.box,h.st.fr.trans h3 ?_,h.st.rn.trans h2 hle⟩
 · rcases h2 with rfl | ⟨g', rfl,hg'⟩
   · exact h.st.en.hr g hg
   · obtain rfl := Option.some.inj hg
     exact Nat.le_trans h.st.en.hw hg'
 · rintro (hx | hx)
   · exact h.st.iX h0 (hx.elim (fun h => .inr (.inl h)) (fun h => .inr (.inr h)))
   · omega
 · rintro k hk (hx | hx)
   · exact h.st.ex k hk (hx.elim (fun h => .inr (.inl h)) (fun h => .inr (.inr h)))
   · omega
theorem D2.wto {w W : World} {B e b : Nat} {r0 r r1 : Option Nat} {ord V S : Value} {B1 e1 b1 pos m eO m1 : Nat} (h : D2 w B e b r0 ord V S B1 e1 b1 W r pos m r1 eO m1) :
 Calls Tryz.prog 77 #[.pointer (some ⟨b1,0,none⟩),.iface 56 (.pointer (some ⟨b,0,none⟩))] W fun e w' => e = .returned (.tuple #[.int .i64 (m1 : Int),.nilIface]) ∧ ∃ r', Bf w' b r' (m + m1) ∧ Rn W r r' ∧ Fr W w' (fun k => BX b r k ∨ k = b1):=
 acr h.gK.bf h.st.en.bf (fun q => h.dj b1 (.inr (.inl rfl)) (.inr (.inl q.symm))) (fun q => h.dj b1 (.inr (.inl rfl)) (.inr (.inr q))) (fun q => h.dj b (.inr (.inr q)) (.inr (.inl rfl))) (fun g hg q => h.dj g (.inr (.inr hg)) (.inr (.inr q))) h.gK.lm h.st.en.lm
theorem aex (w W : World) (B e b : Nat) (r0 r : Option Nat) (ord V : Value) (S : ByteArray) (pos m n1 off : Nat) (hV : V.oneCell' = true) (hN : St w B e b r0 ord V (.string S) W r pos m) (iK : n1 ≤ 20) (hoff : off = pos + n1 + pd (pos + n1) 8)
 {u1 u2 u3 u5 u6 u7 u8 u9 xo xn xm xl xk AU u16 AS zq xj xi xh xg xf xe xd xb xa wZ wY wX wW C9 AR zp wV wU wT wS wR wQ wP wO zo zn zm zl zj zi zh zg zf ze zd zc zb wN wM wL wK wJ wI wH u64 wG wF wD wC wz wy wx wv wu wq wo wk wj wi wh wg we v' vZ vY vX vW vV vU vT vS vR vQ vP vO vN AQ AP AO AN vh vg vf ve vd va uZ uY uX uW uV uU uT uS uR uQ uP uO uN uM uL uK uJ uI uH uG uF uE uD uC uB uA uz uy uw uv uu ur uq uo um uj ui uh ug uf ue ud uc ub ua tZ tY tX tW tV tU tT tS tR tQ tP tO tN tM tL tK tJ tI tH tG tF tE tD tC tB tA tz tx tw tv tu tr tq tp tn tl tk tj ti th tg tf td tc tb ta s' s9 s8 sZ sY sX sW sV sU sT sS sR sQ sP sO sN sM sL sK sJ sI sH sG sF sE sD sC sB sA sy sx sw su ss sr sq sn sm sj si sg se sd sc sb sa r6 rZ rY rX rW rV rU rT rS rR rQ rP rO rN rM rL rK rJ rI rH rG rF rE rD rC rB rA rz ry rv ru rq rp rm rl rk rj ri rh rf q' qZ qY qX qW qV qU qT qS qR qQ qP qO qN yL yK yJ yI yH yG yF yE yD yC yB yA yz yy yx yw yv yu yt yr yq yp yo yn ym qM qL qK qJ qI qH qG qF qE qD qC qB qA qz qy qx qw qv qu qt qq qp qo qn qm ql qk qj qi qh qg qf qe qd qc qb qa p' p8 pZ pY pX pW pV pU pT pS pR pQ pP pO pN pM pL pK pJ pI pH pG pF pE pD pC pB pA py px pw pt pr pq po pn pk pj ph pg pf pe pc pb o9 o8 o7 o6 o5 o4 o3 o0 oZ oY oX oW oV oU oT oS oR oQ oP oO oN oM oL oK oJ oI oH oG oF oE oD oC oB oA oz oy ox ow ov ou ot oq oo om oh oe od oc ob oa n9 n7 n5 nZ nY nX nW nV nU nT nS nR nQ nP nO nN nM nL nK nJ nI nH nG nF nE nD nC nB nA nz ny nw nu nt nr nq np yl yk yj yi yh yg yf ye yd yc yb ya x' xZ xY xX xW xV xU xT xS nm nj ni nh ng nf nc nb na mZ mY mX mW mV mU mT mS mR mQ mP mO mN mM mL mK mJ mI mH mG mF mE mD mC mB mA mz my mw mu mr mq mn mm ml mj mi mh mg mf me mc mb ma l9 l8 l7 l6 l5 l4 lZ lY lX lW lV lU lT lS : Value} (Kx : Act → World → Prop) (R : Ending → World → Prop)
 (hK : ∀ (W' : World) (XM XL XK XJ XI XH XG XF XE XD : Value),Below W.heap.size W W' → St w B e b r0 ord V (.string S) W' r pos m → Kx ⟨List.toArray (.pointer (some ⟨e,0,none⟩)::u1::u2::u3::.pointer (some ⟨w.heap.size,0,none⟩)::u5::u6::u7::u8::u9::xo::xn::xm::xl::xk::AU::u16::AS::zq::xj::xi::xh::xg::xf::xe::xd::xb::xa::wZ::wY::wX::wW::.int .i64 (n1 : Int)::.int .i64 (off : Int)::AR::zp::wV::wU::wT::wS::wR::wQ::wP::wO::zo::zn::zm::zl::zj::zi::zh::zg::zf::ze::zd::zc::zb::wN::wM::wL::wK::wJ::wI::wH::u64::wG::wF::wD::wC::wz::wy::wx::wv::wu::wq::wo::wk::wj::wi::wh::wg::we::v'::vZ::vY::vX::vW::vV::vU::vT::vS::vR::vQ::vP::vO::vN::AQ::AP::AO::AN::vh::vg::vf::ve::vd::va::uZ::uY::uX::uW::uV::uU::uT::uS::uR::uQ::uP::uO::uN::uM::uL::uK::uJ::uI::uH::uG::uF::uE::uD::uC::uB::uA::uz::uy::uw::uv::uu::ur::uq::uo::um::uj::ui::uh::ug::uf::ue::ud::uc::ub::ua::tZ::tY::tX::tW::tV::tU::tT::tS::tR::tQ::tP::tO::tN::tM::tL::tK::tJ::tI::tH::tG::tF::tE::tD::tC::tB::tA::tz::tx::tw::tv::tu::tr::tq::tp::tn::tl::tk::tj::ti::th::tg::tf::td::tc::tb::ta::s'::s9::s8::sZ::sY::sX::sW::sV::sU::sT::sS::sR::sQ::sP::sO::sN::sM::sL::sK::sJ::sI::sH::sG::sF::sE::sD::sC::sB::sA::sy::sx::sw::su::ss::sr::sq::sn::sm::sj::si::sg::se::sd::sc::sb::sa::r6::rZ::rY::rX::rW::rV::rU::rT::rS::rR::rQ::rP::rO::rN::rM::rL::rK::rJ::rI::rH::rG::rF::rE::rD::rC::rB::rA::rz::ry::rv::ru::rq::rp::rm::rl::rk::rj::ri::rh::rf::q'::qZ::qY::qX::qW::qV::qU::qT::qS::qR::qQ::qP::qO::qN::yL::yK::yJ::yI::yH::yG::yF::yE::yD::yC::yB::yA::yz::yy::yx::yw::yv::yu::yt::yr::yq::yp::yo::yn::ym::qM::qL::qK::qJ::qI::qH::qG::qF::qE::qD::qC::qB::qA::qz::qy::qx::qw::qv::qu::qt::qq::qp::qo::qn::qm::ql::qk::qj::qi::qh::qg::qf::qe::qd::qc::qb::qa::p'::p8::pZ::pY::pX::pW::pV::pU::pT::pS::pR::pQ::pP::pO::pN::pM::pL::pK::pJ::pI::pH::pG::pF::pE::pD::pC::pB::pA::py::px::pw::pt::pr::pq::po::pn::pk::pj::ph::pg::pf::pe::pc::pb::o9::o8::o7::o6::o5::o4::o3::o0::oZ::oY::oX::oW::oV::oU::oT::oS::oR::oQ::oP::oO::oN::oM::oL::oK::oJ::oI::oH::oG::oF::oE::oD::oC::oB::oA::oz::oy::ox::ow::ov::ou::ot::oq::oo::om::oh::oe::od::oc::ob::oa::n9::n7::n5::nZ::nY::nX::nW::nV::nU::nT::nS::nR::nQ::nP::nO::nN::nM::nL::nK::nJ::nI::nH::nG::nF::nE::nD::nC::nB::nA::nz::ny::nw::nu::nt::nr::nq::np::XM::XL::XK::XJ::XI::XH::XG::XF::XE::XD::yb::ya::x'::xZ::xY::xX::xW::xV::xU::xT::xS::nm::nj::ni::nh::ng::nf::nc::nb::na::mZ::mY::mX::mW::mV::mU::mT::mS::mR::mQ::mP::mO::mN::mM::mL::mK::mJ::mI::mH::mG::mF::mE::mD::mC::mB::mA::mz::my::mw::mu::mr::mq::mn::mm::ml::mj::mi::mh::mg::mf::me::mc::mb::ma::l9::l8::l7::l6::l5::l4::lZ::lY::lX::lW::lV::lU::lT::lS::[]),[]⟩ W') :
 Code.wp Tryz.prog (cl (cr (cr (cr (ct (cr (ce (cr (ce (cr (ce (cr (ce (cr (ce (cr (ce (cr (ce (cr (ce (cr (ce (cr (ce (cr (ce (cr (ce (cr (ce (cr (cb (cr (cr (cr (cr (cB Tryz.f47)))))))))))))))))))))))))))))))))))))) (Exit.then Kx (Exit.inBlock 0 (bodyPost Tryz.prog Tryz.f47 R))) ⟨List.toArray (.pointer (some ⟨e,0,none⟩)::u1::u2::u3::.pointer (some ⟨w.heap.size,0,none⟩)::u5::u6::u7::u8::u9::xo::xn::xm::xl::xk::AU::u16::AS::zq::xj::xi::xh::xg::xf::xe::xd::xb::xa::wZ::wY::wX::wW::.int .i64 (n1 : Int)::C9::AR::zp::wV::wU::wT::wS::wR::wQ::wP::wO::zo::zn::zm::zl::zj::zi::zh::zg::zf::ze::zd::zc::zb::wN::wM::wL::wK::wJ::wI::wH::u64::wG::wF::wD::wC::wz::wy::wx::wv::wu::wq::wo::wk::wj::wi::wh::wg::we::v'::vZ::vY::vX::vW::vV::vU::vT::vS::vR::vQ::vP::vO::vN::AQ::AP::AO::AN::vh::vg::vf::ve::vd::va::uZ::uY::uX::uW::uV::uU::uT::uS::uR::uQ::uP::uO::uN::uM::uL::uK::uJ::uI::uH::uG::uF::uE::uD::uC::uB::uA::uz::uy::uw::uv::uu::ur::uq::uo::um::uj::ui::uh::ug::uf::ue::ud::uc::ub::ua::tZ::tY::tX::tW::tV::tU::tT::tS::tR::tQ::tP::tO::tN::tM::tL::tK::tJ::tI::tH::tG::tF::tE::tD::tC::tB::tA::tz::tx::tw::tv::tu::tr::tq::tp::tn::tl::tk::tj::ti::th::tg::tf::td::tc::tb::ta::s'::s9::s8::sZ::sY::sX::sW::sV::sU::sT::sS::sR::sQ::sP::sO::sN::sM::sL::sK::sJ::sI::sH::sG::sF::sE::sD::sC::sB::sA::sy::sx::sw::su::ss::sr::sq::sn::sm::sj::si::sg::se::sd::sc::sb::sa::r6::rZ::rY::rX::rW::rV::rU::rT::rS::rR::rQ::rP::rO::rN::rM::rL::rK::rJ::rI::rH::rG::rF::rE::rD::rC::rB::rA::rz::ry::rv::ru::rq::rp::rm::rl::rk::rj::ri::rh::rf::q'::qZ::qY::qX::qW::qV::qU::qT::qS::qR::qQ::qP::qO::qN::yL::yK::yJ::yI::yH::yG::yF::yE::yD::yC::yB::yA::yz::yy::yx::yw::yv::yu::yt::yr::yq::yp::yo::yn::ym::qM::qL::qK::qJ::qI::qH::qG::qF::qE::qD::qC::qB::qA::qz::qy::qx::qw::qv::qu::qt::qq::qp::qo::qn::qm::ql::qk::qj::qi::qh::qg::qf::qe::qd::qc::qb::qa::p'::p8::pZ::pY::pX::pW::pV::pU::pT::pS::pR::pQ::pP::pO::pN::pM::pL::pK::pJ::pI::pH::pG::pF::pE::pD::pC::pB::pA::py::px::pw::pt::pr::pq::po::pn::pk::pj::ph::pg::pf::pe::pc::pb::o9::o8::o7::o6::o5::o4::o3::o0::oZ::oY::oX::oW::oV::oU::oT::oS::oR::oQ::oP::oO::oN::oM::oL::oK::oJ::oI::oH::oG::oF::oE::oD::oC::oB::oA::oz::oy::ox::ow::ov::ou::ot::oq::oo::om::oh::oe::od::oc::ob::oa::n9::n7::n5::nZ::nY::nX::nW::nV::nU::nT::nS::nR::nQ::nP::nO::nN::nM::nL::nK::nJ::nI::nH::nG::nF::nE::nD::nC::nB::nA::nz::ny::nw::nu::nt::nr::nq::np::yl::yk::yj::yi::yh::yg::yf::ye::yd::yc::yb::ya::x'::xZ::xY::xX::xW::xV::xU::xT::xS::nm::nj::ni::nh::ng::nf::nc::nb::na::mZ::mY::mX::mW::mV::mU::mT::mS::mR::mQ::mP::mO::mN::mM::mL::mK::mJ::mI::mH::mG::mF::mE::mD::mC::mB::mA::mz::my::mw::mu::mr::mq::mn::mm::ml::mj::mi::mh::mg::mf::me::mc::mb::ma::l9::l8::l7::l6::l5::l4::lZ::lY::lX::lW::lV::lU::lT::lS::[]),[]⟩ W := by
 have Zo := hN.en.lp
 have h7 := dZ (x := pos + n1) (a := 8) (by omega)
 obtain ⟨l1,Er⟩ : ∃ l1,pos + n1 = l1 := ⟨_,rfl⟩
 obtain ⟨p1,Bw⟩ : ∃ p1,pd (pos + n1) 8 = p1 := ⟨_,rfl⟩
 rw [Bw] at h7 hoff
 have Oj : IntKind.i64.wrap ((pos : Int) + (n1 : Int)) = (l1 : Int) := by rw [IntKind.wrap_i64]; omega
 have Bq : IntKind.i64.wrap ((l1 : Int) + (p1 : Int)) = (off : Int) := by rw [IntKind.wrap_i64]; omega
 have kZ := U.mk Bw
 have ND := U.mk (hN.up (ak (Below.refl _ _)))
 have ud0 := ND.out.x0
 have ud1 := ND.out.x1
 have ud3 := ND.out.en.c3
 have HK := U.mk hK
 have HT := U.mk (fun W => bC V hV S W)
 clear hN hK Zo h7 hoff Er Bw
 dsimp only [cl,cr,ct,ce,cb,cB,Tryz.f47]
 go_region_with (first
  | (go_at_call 73; refine (kO ND.out.en n1 8 (by omega) (by omega)).mono ?_; rw [kZ.out]; rintro e1 ki ⟨rfl,rfl⟩))
 all_goals first
  | (go_wp2; exact HK.out _ _ _ _ _ _ _ _ _ _ _ (ak (Below.refl _ _)) ND.out)
  | (go_simp; exact HK.out _ _ _ _ _ _ _ _ _ _ _ (ak (Below.refl _ _)) ND.out)
end Go.Proofs.YtkdebhgccpfkiaaGreatDoor.au
