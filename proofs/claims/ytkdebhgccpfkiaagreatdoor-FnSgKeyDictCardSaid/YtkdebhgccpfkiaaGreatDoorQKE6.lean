import Derived.Test.YtkdebhgccpfkiaaGreatDoorQKE5
import Derived.Test.YtkdebhgccpfkiaaGreatDoorQKS2
set_option maxRecDepth 100000
set_option maxHeartbeats 16000000
namespace Go.Proofs.YtkdebhgccpfkiaaGreatDoor.au
open Go.RowKit Go.Proofs.aa.az Go.Proofs.aa.aM Go.Proofs.aa.aU
attribute [local go_sem] ba bh
set_option linter.unusedVariables false
set_option linter.unusedSimpArgs false
attribute [local go_sem] jB kK iy fW fV fw fU fT
open Go.Proofs.YtkdebhgccpfkiaaGreatDoor.fD Go.Proofs.YtkdebhgccpfkiaaGreatDoor.fO Go.Proofs.YtkdebhgccpfkiaaGreatDoor.gw
attribute [-go_sem] Builtin.append_
theorem Pp {W6 : World} (base L : Nat) (hLb : L < base) (row : Obj) (v : Value) (i : Nat) (vs : List Value) (hO : W6.ownsRow base 20 1 v i vs) (hL : W6.heap[L]? = some row) (cN : base ≤ W6.heap.size) (hi : i ≤ 100000) (d : TypeId) (u : Value) :
 ∃ A1 c1 w7,(Builtin.append_ #[61,61] 61 #[v,.slice (some ⟨W6.heap.size,0,none⟩) 1 1]).run Tryz.prog (W6.alloc (.cells #[.iface d u] 20)) = .ok (.slice A1 (i + 1) c1) w7 ∧ w7.ownsRow base 20 1 (.slice A1 (i + 1) c1) (i + 1) (vs ++ [.iface d u]) ∧ Below base W6 w7 ∧ w7.heap[L]? = some row ∧ (∀ k,k < W6.heap.size → v.ownBlock ≠ some k → w7.heap[k]? = W6.heap[k]?) ∧ ((Value.slice A1 (i + 1) c1).ownBlock = v.ownBlock ∨ ∃ b,(Value.slice A1 (i + 1) c1).ownBlock = some b ∧ W6.heap.size ≤ b) := by
 obtain ⟨i0,Gy,il⟩ := Option.map_eq_some_iff.1 IY
 simp only [Prod.mk.injEq] at il
 obtain ⟨v1,w7,hr,hown,hg,_,cM⟩ := run_append_own_at (P := Tryz.prog) (W6.alloc (.cells #[.iface d u] 20)) base 61 61 20 i0 .nilIface 1 16 Tryz.underlying61 Gy il.1 il.2.1 il.2.2 rfl (by omega) v i _ (hO.alloc _) ⟨W6.heap.size,0,none⟩ 1 1 [.iface d u] rfl
  (World.news_of_block (cs := #[.iface d u]) (t := 20) (fr := (0,0)) (heap_alloc_new W6 _)) (by intro x hx; rw [List.mem_singleton.1 hx]; rfl) (by unfold maxLen; omega) (by omega) (by simp; omega)
 obtain ⟨A1,c1,rfl⟩ := dX hown
 have hG := World.grownBy.trans (World.grownBy_alloc W6 (.cells #[.iface d u] 20) v.ownBlock) hg
 have Tn : ∀ k,v.ownBlock = some k → base ≤ k := fun k hk => dY hO k hk
 refine ⟨A1,c1,w7,hr,hown,⟨hG.os,hG.tape,hG.output,hG.size,fun k hk => hG.block k (by omega) (fun h => by have := Tn k h.symm; omega)⟩,gu hG (fun e => by have := Tn _ e; omega) hL,fun k hk hne => hG.block k hk (fun e => hne e.symm),?_⟩
 rcases cM with cM | cM
 · exact .inl cM
 · exact .inr ⟨_,cM,by simp⟩
theorem U5 (x : cY) (l0 : UInt8) (ls te : List UInt8) (h0 : x.f0 = 97) (h2 : x.f2 = Bs (l0 :: ls)) (hne : l0 ≠ 123) (Dh : DT (l0 :: ls) te) (I2 : te.length ≤ 100000) (hn : x.f3.length ≤ 1000) (Ks : List Nat) (d0 al : Nat) (gM : al = 1 ∨ al = 2 ∨ al = 4 ∨ al = 8) (AE : ∀ W,Calls Tryz.prog 60 #[.string (Bs te)] W fun e w' => e = .returned (.int .i64 (al : Int)) ∧ Below W.heap.size W w') (Jf : Ks.length = x.f3.length) (BF : Ks.sum ≤ 67000000) (ih : ∀ (j : Nat) y,x.f3[j]? = some y → DV y te d0 (Ks.getD j 0)) : DV x (91 :: te) (d0 + 1) (Ks.sum + 60) := by
 intro A c3 w hC
 rw [h0,h2]
 obtain ⟨n,fL⟩ : ∃ n,x.f3.length = n := ⟨_,rfl⟩
 have HC := U.mk hC
 rw [fL] at hn Jf ⊢
 have AG := U.mk (And.intro Jf (And.intro BF (And.intro gM AE)))
 clear Jf BF gM AE
 obtain ⟨s,hs⟩ : ∃ s,Bs (l0 :: ls) = s := ⟨_,rfl⟩
 have Gy : ∀ h : 0 < s.size,((s[0]'h).toNat : Int) = (l0.toNat : Int) := by subst hs; exact yO l0 ls
 have n1 : (((l0.toNat : Nat) : Int) == 123) = false := beq_eq_false_iff_ne.mpr (jU hne)
 have q0 : 0 < s.size := by rw [← hs,aZ]; simp
 have q1 : (0 < s.size) = True := eq_true q0
 have q2 : ((0 : Int) < (s.size : Int)) = True := eq_true (by omega)
 have q3 : (s.toList == ([] : List UInt8)) = false := by rw [← hs,ch,fH]; exact beq_eq_false_iff_ne.mpr (by simp)
 unfold DT at Dh
 rw [hs] at Dh ⊢
 have HDT := U.mk Dh
 have IH := U.mk ih
 have ix := U.mk fL
 have bH := ab (Below.refl w.heap.size w) (.cells #[.int .u8 97,.int .u64 x.f1,.string s,.slice A n c3] 65)
 have c1 : (w.alloc (.cells #[.int .u8 97,.int .u64 x.f1,.string s,.slice A n c3] 65)).heap[w.heap.size]? = some (.cells #[.int .u8 97,.int .u64 x.f1,.string s,.slice A n c3] 65 (0,0)) := heap_alloc_new w _
 have LC := U.mk bH
 have C1 := U.mk c1
 generalize (l0.toNat : Int) = D at *
 clear Dh ih hC hs bH c1 q0 hne h0 h2 fL
 go_enter Tryz.func49,Tryz.ntmps49
 go_wp2_with fail
 refine (HDT.out _).mono ?_
 rintro e1 w2 ⟨rfl,hb⟩
 have cO := U.mk (aw LC.out hb)
 have C2 := aQ hb C1.out
 have p3 : w2.cell? ⟨w.heap.size,3,none⟩ = some (.slice A n c3) := (cell_of_row w2 w.heap.size 3 _ 65 (0,0) C2).trans rfl
 have Bq : w.heap.size < w2.heap.size := (Array.getElem?_eq_some_iff.1 C2).1
 have Yu := fun o => ag (ab (Below.refl w2.heap.size w2) o) p3
 clear hb C2
 go_wp2_with fail
 have Dm := heap_alloc_new w2 (.cells #[.string (Bs te),.slice none 0 0] 155)
 have bU := U.mk (ab cO.out (.cells #[.string (Bs te),.slice none 0 0] 155))
 have OG := World.ownsRow_nil (w2.alloc (.cells #[.string (Bs te),.slice none 0 0] 155)) (w2.heap.size + 1) 20 1
 have J1 := U.mk (And.intro Dm OG)
 obtain ⟨L,hL⟩ : ∃ L,w2.heap.size = L := ⟨_,rfl⟩
 simp only [hL] at J1 Bq ⊢
 clear Dm OG p3 Yu
 generalize w2.alloc (.cells #[.string (Bs te),.slice none 0 0] 155) = W0 at *
 go_loopg [166] n (fun kq P6 wr => ∃ (i : Nat) (v : Value) (vs : List Value),P6 = .int .i64 (i : Int) ∧ i ≤ n ∧ U (kq = n - i ∧ Below w.heap.size w wr ∧ wr.heap[L]? = some (.cells #[.string (Bs te),v] 155 (0,0)) ∧ wr.ownsRow (L + 1) 20 1 v i vs ∧ ∀ (j : Nat) u,vs[j]? = some u → ∃ S,EV wr S u te d0 (Ks.getD j 0) ∧ (∃ dT q,u = .iface dT q) ∧ ∀ k,S k → L + 1 ≤ k ∧ v.ownBlock ≠ some k))
 case atStart => exact ⟨0,.slice none 0 0,[],rfl,by omega,⟨rfl,bU.out,J1.out.1,J1.out.2,fun j u h => by simp at h⟩⟩
 case round=>
  obtain ⟨i,v,vs,rfl,hi,HI⟩ := hrel
  have fP := U.mk HI.out.1
  by_cases hlt : i < n
  · have hd : decide ((i : Int) < (n : Int)) = true := by simpa using hlt
    have iI : IntKind.i64.wrap ((i : Int) + 1) = ((i + 1 : Nat) : Int) := by rw [IntKind.wrap_i64]; omega
    have j4 : i < x.f3.length := by rw [ix.out]; exact hlt
    obtain ⟨ad,A3,c4,rfl,q0,q1,q2,q3,lC,bN⟩ := vG HC.out (i : Int) (by omega) (by omega)
    have lB : eP x.f3 (i : Int) = x.f3[i] := by
     unfold eP
     rw [Int.toNat_natCast,List.getD_eq_getElem?_getD,List.getElem?_eq_getElem j4]
     rfl
    obtain ⟨y,hy⟩ : ∃ y,x.f3[i] = y := ⟨_,rfl⟩
    rw [lB,hy] at q0 q1 q2 q3 lC bN
    have kU := IH.out i y (by rw [List.getElem?_eq_getElem j4,hy])
    have GY := U.mk kU
    have lb := U.mk bN
    replace q0 := ag HI.out.2.1 q0
    replace q1 := ag HI.out.2.1 q1
    replace q2 := ag HI.out.2.1 q2
    replace q3 := ag HI.out.2.1 q3
    clear lB kU bN hy j4
    simp only [Int.toNat_natCast] at q0 q1 q2 q3
    go_wp2_with fail
    have h5 := heap_alloc_new wr (.cells #[.int .u8 y.f0,.int .u64 y.f1,.string y.f2,.slice A3 y.f3.length c4] 65)
    have bZ := ab (Below.refl wr.heap.size wr) (.cells #[.int .u8 y.f0,.int .u64 y.f1,.string y.f2,.slice A3 y.f3.length c4] 65)
    have JA := aQ bZ HI.out.2.2.1
    have OE := HI.out.2.2.2.1.alloc (.cells #[.int .u8 y.f0,.int .u64 y.f1,.string y.f2,.slice A3 y.f3.length c4] 65)
    have BI := aw HI.out.2.1 bZ
    have jo : U (Below wr.heap.size wr (wr.alloc (.cells #[.int .u8 y.f0,.int .u64 y.f1,.string y.f2,.slice A3 y.f3.length c4] 65)).drew) := ⟨ak bZ⟩
    have PE := U.mk HI.out.2.2.2.2
    generalize wr.alloc (.cells #[.int .u8 y.f0,.int .u64 y.f1,.string y.f2,.slice A3 y.f3.length c4] 65) = W5 at *
    obtain ⟨g5,xD⟩ : ∃ g,wr.heap.size = g := ⟨_,rfl⟩
    have HG5 := U.mk xD
    rw [xD] at h5
    simp only [xD]
    clear xD
    have x0 : W5.drew.cell? ⟨g5,0,none⟩ = some (.int .u8 y.f0) := (cell_of_row W5.drew g5 0 _ 65 (0,0) h5).trans rfl
    have x1 : W5.drew.cell? ⟨g5,1,none⟩ = some (.int .u64 y.f1) := (cell_of_row W5.drew g5 1 _ 65 (0,0) h5).trans rfl
    have x2 : W5.drew.cell? ⟨g5,2,none⟩ = some (.string y.f2) := (cell_of_row W5.drew g5 2 _ 65 (0,0) h5).trans rfl
    have x3 : W5.drew.cell? ⟨g5,3,none⟩ = some (.slice A3 y.f3.length c4) := (cell_of_row W5.drew g5 3 _ 65 (0,0) h5).trans rfl
    have y1 : W5.drew.cell? ⟨L,1,none⟩ = some v := (cell_of_row W5.drew L 1 _ 155 (0,0) JA).trans rfl
    have PH : U (W5.drew.heap[L]? = some (.cells #[.string (Bs te),v] 155 (0,0))) := ⟨JA⟩
    have BR : U (W5.drew.ownsRow (L + 1) 20 1 v i vs) := ⟨OE⟩
    have Fe := U.mk (ak BI)
    clear h5 bZ JA OE BI q0 q1 q2 q3
    go_region_with (first
     | (go_at_call 49; refine (GY.out A3 c4 _ (Kd.bD lb.out Fe.out)).mono ?_; rintro e1 w6 ⟨d,u,Sx,rfl,kS,kT,hb,_⟩;
         have Jz := aQ hb PH.out; have AD := aw Fe.out hb; have y6 := ag hb y1; have y6a := fun o => ag (ab (Below.refl w6.heap.size w6) o) y6;
         obtain ⟨A1,c1,w7,hr,hown,Bz,EB,xA,j7⟩ := Pp (L + 1) L (Nat.lt_succ_self L) _ v i vs (iU BR.out hb) Jz (Array.getElem?_eq_some_iff.1 Jz).1 (by omega) d u;
         have HN := U.mk (And.intro kS (And.intro kT (And.intro hb (And.intro xA (And.intro j7 Bz.size))))); have JZ := U.mk hown; have zQ := U.mk (AD.trans (aC Bz (by omega))); have HL7 := U.mk EB; have f7 := frozen_of_row w7 L 1 _ 155 EB; have y7 : w7.cell? ⟨L,1,none⟩ = some v := (cell_of_row w7 L 1 _ 155 (0,0) EB).trans rfl; clear hb hown Bz EB Jz AD kS kT xA j7))
    all_goals
     go_wp2
     go_roundg (n - (i + 1))
     case measure => have := fP.out; omega
     case rel=>
      refine ⟨i + 1,_,vs ++ [.iface d u],by first | rfl | simp,hlt,⟨rfl,zQ.out.setCell (by show w.heap.size ≤ L; omega) _,heap_setCell_same w7 L 1 _ 155 (.slice A1 (i + 1) c1) HL7.out,gC JZ.out (p := ⟨L,1,none⟩) (fun e => by have := dY JZ.out L e.symm; omega) _,?_⟩⟩
      obtain ⟨kS,kT,hb,xA,j7,Om⟩ := HN.out
      have iJ : vs.length = i := by simpa using BR.out.1
      have Zq : L < W5.drew.heap.size := (Array.getElem?_eq_some_iff.1 PH.out).1
      have mv : ∀ (S : Nat → Prop) (q : Value) (t : List UInt8) (d1 K1 : Nat),EV w6 S q t d1 K1 → (∀ k,S k → L + 1 ≤ k ∧ v.ownBlock ≠ some k) → EV (w7.setCell ⟨L,1,none⟩ (.slice A1 (i + 1) c1)) S q t d1 K1 ∧ ∀ k,S k → L + 1 ≤ k ∧ (Value.slice A1 (i + 1) c1).ownBlock ≠ some k := by
       intro S q t d1 K1 h hS
       refine ⟨h.move (by rw [World.size_setCell]; exact Om) fun k hk => (Below.heap_setCell w7 ⟨L,1,none⟩ _ k (by have := (hS k hk).1; show k ≠ L; omega)).trans (xA k (h.ty.1 k hk) (hS k hk).2),fun k hk => ⟨(hS k hk).1,fun e => ?_⟩⟩
       rcases j7 with cM | ⟨b,hb2,hle⟩
       · exact (hS k hk).2 (cM ▸ e)
       · rw [hb2] at e
         have := h.ty.1 k hk
         injection e with e
         omega
      intro j q hq
      by_cases hj : j < vs.length
      · rw [List.getElem?_append_left hj] at hq
        obtain ⟨S,h2,xC,h3⟩ := PE.out j q hq
        have h4 := mv S q te _ _ ((h2.up jo.out).up hb) h3
        exact ⟨S,h4.1,xC,h4.2⟩
      · have Gx : j = vs.length := by
         have := (List.getElem?_eq_some_iff.1 hq).1
         simp at this
         omega
        subst Gx
        rw [List.getElem?_append_right (Nat.le_refl _)] at hq
        obtain rfl : q = .iface d u := by simpa using hq.symm
        have h4 := mv Sx (.iface d u) te _ _ kS fun k hk => ⟨by have := kT k hk; omega,fun e => by have h5 := gq BR.out k e; have h6 := kT k hk; omega⟩
        exact ⟨Sx,by rw [iJ]; exact h4.1,⟨_,_,rfl⟩,h4.2⟩
  · have hd : decide ((i : Int) < (n : Int)) = false := by simpa using hlt
    obtain rfl : i = n := by omega
    obtain ⟨Sx,hT,hS⟩ := aao wr (L + 1) L L v i vs te Ks d0 al AG.out.2.2.1 AG.out.2.2.2 I2 HI.out.2.2.1 HI.out.2.2.2.1 (Nat.le_refl _) (by omega) AG.out.1 hn AG.out.2.1 fun j u hu => by
     obtain ⟨S,h2,xC,h3⟩ := HI.out.2.2.2.2 j u hu
     exact ⟨S,h2,xC,fun k hk => by have := (h3 k hk).1; omega⟩
    have HX := U.mk (And.intro hT hS)
    clear hT hS
    go_wp2_with fail
    go_ret
    refine ⟨_,_,Sx,rfl,HX.out.1,fun k hk => by have := HX.out.2 k hk; omega,HI.out.2.1,?_⟩
    rintro c hc e
    simp at e
    obtain ⟨e1,e2⟩ := e
    subst e1
    exact absurd hc (by decide)
theorem aay (x : cY) (zs : List (List UInt8 × List UInt8)) (Ks : List Nat) (d0 : Nat) (h0 : x.f0 = 40) (hts : zs.length = x.f3.length) (Jf : Ks.length = x.f3.length) (hz : ∀ z ∈ zs,Z 32 32 32 z.1 z.2) (htl : (zs.map Prod.snd).flatten.length ≤ 100000) (hn : x.f3.length ≤ 1000) (ih : ∀ (j : Nat) y,x.f3[j]? = some y → ∃ z,zs[j]? = some z ∧ DV y z.2 d0 (Ks.getD j 0)) : DV x (40 :: ((zs.map Prod.snd).flatten ++ [41])) (d0 + 1) (Ks.sum + 20) := by
 intro A c3 w hC
 rw [h0]
 obtain ⟨n,fL⟩ : ∃ n,x.f3.length = n := ⟨_,rfl⟩
 have HC := U.mk hC
 rw [fL] at hn hts Jf ⊢
 have IH := U.mk ih
 have ix := U.mk fL
 have Ua := U.mk (And.intro hts (And.intro htl (And.intro Jf hz)))
 have bH := ab (Below.refl w.heap.size w) (.cells #[.int .u8 40,.int .u64 x.f1,.string x.f2,.slice A n c3] 65)
 have c1 : (w.alloc (.cells #[.int .u8 40,.int .u64 x.f1,.string x.f2,.slice A n c3] 65)).heap[w.heap.size]? = some (.cells #[.int .u8 40,.int .u64 x.f1,.string x.f2,.slice A n c3] 65 (0,0)) := heap_alloc_new w _
 have Dm := heap_alloc_new (w.alloc (.cells #[.int .u8 40,.int .u64 x.f1,.string x.f2,.slice A n c3] 65)) (.cells #[.slice none 0 0] 150)
 have OG := World.ownsRow_nil ((w.alloc (.cells #[.int .u8 40,.int .u64 x.f1,.string x.f2,.slice A n c3] 65)).alloc (.cells #[.slice none 0 0] 150)) (w.heap.size + 1 + 1) 20 1
 have c2 := aQ (ab (Below.refl _ _) (.cells #[.slice none 0 0] 150)) c1
 have p3 := (cell_of_row _ w.heap.size 3 _ 65 (0,0) c2).trans rfl
 rw [World.size_alloc] at Dm
 have bU := U.mk (ab bH (.cells #[.slice none 0 0] 150))
 have J1 := U.mk (And.intro Dm OG)
 clear ih hC bH c1 c2 h0 fL Dm OG hts htl Jf hz
 go_enter Tryz.func49,Tryz.ntmps49
 go_wp2_with fail
 obtain ⟨L,hL⟩ : ∃ L,w.heap.size + 1 = L := ⟨_,rfl⟩
 simp only [hL] at J1 ⊢
 have Bq : w.heap.size < L := by omega
 clear p3
 generalize (w.alloc (.cells #[.int .u8 40,.int .u64 x.f1,.string x.f2,.slice A n c3] 65)).alloc (.cells #[.slice none 0 0] 150) = W0 at *
 go_loopg [104] n (fun kq P6 wr => ∃ (i : Nat) (v : Value) (vs : List Value),P6 = .int .i64 (i : Int) ∧ i ≤ n ∧ U (kq = n - i ∧ Below w.heap.size w wr ∧ wr.heap[L]? = some (.cells #[v] 150 (0,0)) ∧ wr.ownsRow (L + 1) 20 1 v i vs ∧ ∀ (j : Nat) u,vs[j]? = some u → ∃ z S,zs[j]? = some z ∧ EV wr S u z.2 d0 (Ks.getD j 0) ∧ (∃ dT q,u = .iface dT q) ∧ ∀ k,S k → L + 1 ≤ k ∧ v.ownBlock ≠ some k))
 case atStart => exact ⟨0,.slice none 0 0,[],rfl,by omega,⟨rfl,bU.out,J1.out.1,J1.out.2,fun j u h => by simp at h⟩⟩
 case round=>
  obtain ⟨i,v,vs,rfl,hi,HI⟩ := hrel
  have fP := U.mk HI.out.1
  by_cases hlt : i < n
  · have hd : decide ((i : Int) < (n : Int)) = true := by simpa using hlt
    have iI : IntKind.i64.wrap ((i : Int) + 1) = ((i + 1 : Nat) : Int) := by rw [IntKind.wrap_i64]; omega
    have j4 : i < x.f3.length := by rw [ix.out]; exact hlt
    obtain ⟨ad,A3,c4,rfl,q0,q1,q2,q3,lC,bN⟩ := vG HC.out (i : Int) (by omega) (by omega)
    have lB : eP x.f3 (i : Int) = x.f3[i] := by
     unfold eP
     rw [Int.toNat_natCast,List.getD_eq_getElem?_getD,List.getElem?_eq_getElem j4]
     rfl
    obtain ⟨y,hy⟩ : ∃ y,x.f3[i] = y := ⟨_,rfl⟩
    rw [lB,hy] at q0 q1 q2 q3 lC bN
    obtain ⟨t,Gn,kU⟩ := IH.out i y (by rw [List.getElem?_eq_getElem j4,hy])
    have GY := U.mk kU
    have HTJ := U.mk Gn
    clear Gn
    have lb := U.mk bN
    replace q0 := ag HI.out.2.1 q0
    replace q1 := ag HI.out.2.1 q1
    replace q2 := ag HI.out.2.1 q2
    replace q3 := ag HI.out.2.1 q3
    clear lB kU bN hy j4
    simp only [Int.toNat_natCast] at q0 q1 q2 q3
    go_wp2_with fail
    have h5 := heap_alloc_new wr (.cells #[.int .u8 y.f0,.int .u64 y.f1,.string y.f2,.slice A3 y.f3.length c4] 65)
    have bZ := ab (Below.refl wr.heap.size wr) (.cells #[.int .u8 y.f0,.int .u64 y.f1,.string y.f2,.slice A3 y.f3.length c4] 65)
    have JA := aQ bZ HI.out.2.2.1
    have OE := HI.out.2.2.2.1.alloc (.cells #[.int .u8 y.f0,.int .u64 y.f1,.string y.f2,.slice A3 y.f3.length c4] 65)
    have BI := aw HI.out.2.1 bZ
    have jo : U (Below wr.heap.size wr (wr.alloc (.cells #[.int .u8 y.f0,.int .u64 y.f1,.string y.f2,.slice A3 y.f3.length c4] 65)).drew) := ⟨ak bZ⟩
    have PE := U.mk HI.out.2.2.2.2
    generalize wr.alloc (.cells #[.int .u8 y.f0,.int .u64 y.f1,.string y.f2,.slice A3 y.f3.length c4] 65) = W5 at *
    obtain ⟨g5,xD⟩ : ∃ g,wr.heap.size = g := ⟨_,rfl⟩
    have HG5 := U.mk xD
    rw [xD] at h5
    simp only [xD]
    clear xD
    have x0 : W5.drew.cell? ⟨g5,0,none⟩ = some (.int .u8 y.f0) := (cell_of_row W5.drew g5 0 _ 65 (0,0) h5).trans rfl
    have x1 : W5.drew.cell? ⟨g5,1,none⟩ = some (.int .u64 y.f1) := (cell_of_row W5.drew g5 1 _ 65 (0,0) h5).trans rfl
    have x2 : W5.drew.cell? ⟨g5,2,none⟩ = some (.string y.f2) := (cell_of_row W5.drew g5 2 _ 65 (0,0) h5).trans rfl
    have x3 : W5.drew.cell? ⟨g5,3,none⟩ = some (.slice A3 y.f3.length c4) := (cell_of_row W5.drew g5 3 _ 65 (0,0) h5).trans rfl
    have y1 : W5.drew.cell? ⟨L,0,none⟩ = some v := (cell_of_row W5.drew L 0 _ 150 (0,0) JA).trans rfl
    have PH : U (W5.drew.heap[L]? = some (.cells #[v] 150 (0,0))) := ⟨JA⟩
    have BR : U (W5.drew.ownsRow (L + 1) 20 1 v i vs) := ⟨OE⟩
    have Fe := U.mk (ak BI)
    clear h5 bZ JA OE BI q0 q1 q2 q3
    go_region_with (first
     | (go_at_call 49; refine (GY.out A3 c4 _ (Kd.bD lb.out Fe.out)).mono ?_; rintro e1 w6 ⟨d,u,Sx,rfl,kS,kT,hb,_⟩;
         have Jz := aQ hb PH.out; have AD := aw Fe.out hb; have y6 := ag hb y1; have y6a := fun o => ag (ab (Below.refl w6.heap.size w6) o) y6;
         obtain ⟨A1,c1,w7,hr,hown,Bz,EB,xA,j7⟩ := Pp (L + 1) L (Nat.lt_succ_self L) _ v i vs (iU BR.out hb) Jz (Array.getElem?_eq_some_iff.1 Jz).1 (by omega) d u;
         have HN := U.mk (And.intro kS (And.intro kT (And.intro hb (And.intro xA (And.intro j7 Bz.size))))); have JZ := U.mk hown; have zQ := U.mk (AD.trans (aC Bz (by omega))); have HL7 := U.mk EB; have f7 := frozen_of_row w7 L 0 _ 150 EB; have y7 : w7.cell? ⟨L,0,none⟩ = some v := (cell_of_row w7 L 0 _ 150 (0,0) EB).trans rfl; clear hb hown Bz EB Jz AD kS kT xA j7))
    all_goals
     go_wp2
     go_roundg (n - (i + 1))
     case measure => have := fP.out; omega
     case rel=>
      refine ⟨i + 1,_,vs ++ [.iface d u],by first | rfl | simp,hlt,⟨rfl,zQ.out.setCell (by show w.heap.size ≤ L; omega) _,heap_setCell_same w7 L 0 _ 150 (.slice A1 (i + 1) c1) HL7.out,gC JZ.out (p := ⟨L,0,none⟩) (fun e => by have := dY JZ.out L e.symm; omega) _,?_⟩⟩
      obtain ⟨kS,kT,hb,xA,j7,Om⟩ := HN.out
      have iJ : vs.length = i := by simpa using BR.out.1
      have Zq : L < W5.drew.heap.size := (Array.getElem?_eq_some_iff.1 PH.out).1
      have mv : ∀ (S : Nat → Prop) (q : Value) (t : List UInt8) (d1 K1 : Nat),EV w6 S q t d1 K1 → (∀ k,S k → L + 1 ≤ k ∧ v.ownBlock ≠ some k) → EV (w7.setCell ⟨L,0,none⟩ (.slice A1 (i + 1) c1)) S q t d1 K1 ∧ ∀ k,S k → L + 1 ≤ k ∧ (Value.slice A1 (i + 1) c1).ownBlock ≠ some k := by
       intro S q t d1 K1 h hS
       refine ⟨h.move (by rw [World.size_setCell]; exact Om) fun k hk => (Below.heap_setCell w7 ⟨L,0,none⟩ _ k (by have := (hS k hk).1; show k ≠ L; omega)).trans (xA k (h.ty.1 k hk) (hS k hk).2),fun k hk => ⟨(hS k hk).1,fun e => ?_⟩⟩
       rcases j7 with cM | ⟨b,hb2,hle⟩
       · exact (hS k hk).2 (cM ▸ e)
       · rw [hb2] at e
         have := h.ty.1 k hk
         injection e with e
         omega
      intro j q hq
      by_cases hj : j < vs.length
      · rw [List.getElem?_append_left hj] at hq
        obtain ⟨t2,S,h1,h2,xC,h3⟩ := PE.out j q hq
        have h4 := mv S q t2.2 _ _ ((h2.up jo.out).up hb) h3
        exact ⟨t2,S,h1,h4.1,xC,h4.2⟩
      · have Gx : j = vs.length := by
         have := (List.getElem?_eq_some_iff.1 hq).1
         simp at this
         omega
        subst Gx
        rw [List.getElem?_append_right (Nat.le_refl _)] at hq
        obtain rfl : q = .iface d u := by simpa using hq.symm
        have h4 := mv Sx (.iface d u) t.2 _ _ kS fun k hk => ⟨by have := kT k hk; omega,fun e => by have h5 := gq BR.out k e; have h6 := kT k hk; omega⟩
        exact ⟨t,Sx,by rw [iJ]; exact HTJ.out,by rw [iJ]; exact h4.1,⟨_,_,rfl⟩,h4.2⟩
  · have hd : decide ((i : Int) < (n : Int)) = false := by simpa using hlt
    have vz : i = n := by omega
    subst vz
    obtain ⟨A9,c9,rfl⟩ := dX HI.out.2.2.2.1
    have y9 : wr.cell? ⟨L,0,none⟩ = some (.slice A9 i c9) := (cell_of_row wr L 0 _ 150 (0,0) HI.out.2.2.1).trans rfl
    obtain ⟨Sx,hT,hS⟩ := aan wr (L + 1) (L + 1) A9 i c9 vs zs Ks d0 HI.out.2.2.2.1 (Nat.le_refl _) Ua.out.1 Ua.out.2.2.1 hn Ua.out.2.2.2 Ua.out.2.1 fun j u hu => by
     obtain ⟨z,S,h1,h2,xC,h3⟩ := HI.out.2.2.2.2 j u hu
     exact ⟨z,S,h1,h2,xC,fun k hk => (h3 k hk).1⟩
    have HX := U.mk (And.intro hT hS)
    clear hT hS
    go_wp2_with fail
    go_ret
    refine ⟨_,_,Sx,rfl,HX.out.1,fun k hk => by have := HX.out.2 k hk; omega,HI.out.2.1,?_⟩
    rintro c hc e
    simp at e
end Go.Proofs.YtkdebhgccpfkiaaGreatDoor.au
namespace Go.Proofs.YtkdebhgccpfkiaaGreatDoor.au
open Go.RowKit Go.Proofs.aa.az Go.Proofs.aa.aM Go.Proofs.aa.aU
attribute [local go_sem] ba bh
set_option linter.unusedVariables false
set_option linter.unusedSimpArgs false
open Go.Proofs.YtkdebhgccpfkiaaGreatDoor.fD Go.Proofs.YtkdebhgccpfkiaaGreatDoor.fO Go.Proofs.YtkdebhgccpfkiaaGreatDoor.gw
attribute [local go_sem] F3
attribute [-go_sem] Builtin.append_
def KN (u v : Value) : Prop := ∀ w,(binOp BinOp.eql 20 u v).run Tryz.prog w = .ok (.bool false) w
def Upd (n : Nat) (kl vl : List Value) (k x : Value) (Bl C8 : List Value) : Prop := (Bl = kl ∧ ∃ i,i < n ∧ C8 = vl.set i x) ∨ (Bl = kl ++ [k] ∧ C8 = vl ++ [x] ∧ ∀ (j : Nat) k', kl[j]? = some k' → KN k' k)
section
structure F6 (w X : World) (L : Nat) (E1 E2 : ByteArray) (ks vs : Value) (n : Nat) (kl vl : List Value) (k x : Value) (t2 t3 : ByteArray) : Prop where
 di : DI X L E1 E2 ks vs n kl vl
 r2 : X.heap[w.heap.size + 1]? = some (.cells #[k,.string t2] 86 (0,0))
 r3 : X.heap[w.heap.size + 1 + 1]? = some (.cells #[x,.string t3] 86 (0,0))
 lk : ∀ q,ks.ownBlock = some q → q < w.heap.size
 lv : ∀ q,vs.ownBlock = some q → q < w.heap.size
 lw : L < w.heap.size
 sz : w.heap.size + 2 < X.heap.size
 be : Below L w X
 fr : ∀ q,q < w.heap.size → q ≠ L → ks.ownBlock ≠ some q → vs.ownBlock ≠ some q → X.heap[q]? = w.heap[q]?
variable {w X : World} {L : Nat} {E1 E2 : ByteArray} {ks vs : Value} {n : Nat} {kl vl : List Value} {k x : Value} {t2 t3 : ByteArray}
theorem F6.alloc (h : F6 w X L E1 E2 ks vs n kl vl k x t2 t3) (o : Obj) : F6 w (X.alloc o) L E1 E2 ks vs n kl vl k x t2 t3:=
 ⟨⟨aQ (ab (Below.refl _ _) o) h.di.row,h.di.k.alloc o,h.di.v.alloc o,h.di.ap⟩,aQ (ab (Below.refl _ _) o) h.r2,aQ (ab (Below.refl _ _) o) h.r3,h.lk,h.lv,h.lw,by have := h.sz; rw [World.size_alloc]; omega,h.be.trans (aC (ab (Below.refl X.heap.size X) o) (by have := h.lw; have := h.sz; omega)),fun q h1 h2 h3 h4 => (heap_alloc_old X o (by have := h.sz; omega)).trans (h.fr q h1 h2 h3 h4)⟩
structure F7 (w X : World) (L : Nat) (E1 E2 : ByteArray) (ks v1 vs : Value) (n : Nat) (kl vl : List Value) (k x : Value) (t2 t3 : ByteArray) : Prop where
 row : X.heap[L]? = some (.cells #[.string E1,.string E2,ks,vs] 172 (0,0))
 kr : X.ownsRow (L + 1) 20 1 v1 (n + 1) (kl ++ [k])
 vr : X.ownsRow (L + 1) 20 1 vs n vl
 ap : ∀ q,v1.ownBlock = some q → vs.ownBlock ≠ some q
 r2 : X.heap[w.heap.size + 1]? = some (.cells #[k,.string t2] 86 (0,0))
 r3 : X.heap[w.heap.size + 1 + 1]? = some (.cells #[x,.string t3] 86 (0,0))
 lv : ∀ q,vs.ownBlock = some q → q < w.heap.size
 lw : L < w.heap.size
 sz : w.heap.size + 2 < X.heap.size
 be : Below L w X
 fr : ∀ q,q < w.heap.size → q ≠ L → ks.ownBlock ≠ some q → vs.ownBlock ≠ some q → X.heap[q]? = w.heap[q]?
 o1 : ∀ q,q < w.heap.size → v1.ownBlock = some q → ks.ownBlock = some q
theorem F7.alloc {v1 : Value} (h : F7 w X L E1 E2 ks v1 vs n kl vl k x t2 t3) (o : Obj) : F7 w (X.alloc o) L E1 E2 ks v1 vs n kl vl k x t2 t3:=
 ⟨aQ (ab (Below.refl _ _) o) h.row,h.kr.alloc o,h.vr.alloc o,h.ap,aQ (ab (Below.refl _ _) o) h.r2,aQ (ab (Below.refl _ _) o) h.r3,h.lv,h.lw,by have := h.sz; rw [World.size_alloc]; omega,h.be.trans (aC (ab (Below.refl X.heap.size X) o) (by have := h.lw; have := h.sz; omega)),fun q h1 h2 h3 h4 => (heap_alloc_old X o (by have := h.sz; omega)).trans (h.fr q h1 h2 h3 h4),h.o1⟩
theorem F6.ap1 (h : F6 w X L E1 E2 ks vs n kl vl k x t2 t3) {v1 : Value} {w1 : World} (ho : w1.ownsRow (L + 1) 20 1 v1 (n + 1) (kl ++ [k])) (hg : X.grownBy w1 ks.ownBlock) (cM : v1.ownBlock = ks.ownBlock ∨ ∃ b,v1.ownBlock = some b ∧ X.heap.size ≤ b) : F7 w w1 L E1 E2 ks v1 vs n kl vl k x t2 t3 := by
 have hb : ∀ q,ks.ownBlock = some q → L + 1 ≤ q := fun q hq => dY h.di.k q hq
 have hs := h.sz
 have hl := h.lw
 refine ⟨gu hg (fun e => by have := hb L e; omega) h.di.row,ho,h.di.v.kept hg ?_,?_,gu hg (fun e => by have := h.lk _ e; omega) h.r2,gu hg (fun e => by have := h.lk _ e; omega) h.r3,h.lv,h.lw,by have := hg.size; omega,h.be.trans (yR hg (fun q hq => by have := hb q hq; omega) (by omega)),fun q h1 h2 h3 h4 => (hg.block q (by omega) (fun e => h3 e.symm)).trans (h.fr q h1 h2 h3 h4),fun q hq e => cM.elim (fun h1 => h1.symm.trans e) (fun ⟨b,hb2,hle⟩ => absurd (Option.some.inj (hb2.symm.trans e)) (by omega))⟩
 · cases e : vs.ownBlock with
   | none => exact .inl rfl
   | some q => exact .inr (fun e2 => h.di.ap q e2.symm e)
 · intro q hq e
   rcases cM with cM | ⟨b,hb2,hle⟩
   · exact h.di.ap q (cM ▸ hq) e
   · rw [hb2] at hq
     have := h.lv q e
     injection hq with hq
     omega
structure Mu (w X : World) (L : Nat) (E1 E2 : ByteArray) (ks v1 vs v2 : Value) (n : Nat) (kl vl : List Value) (k x : Value) (t2 t3 : ByteArray) : Prop where
 row : X.heap[L]? = some (.cells #[.string E1,.string E2,ks,vs] 172 (0,0))
 kr : X.ownsRow (L + 1) 20 1 v1 (n + 1) (kl ++ [k])
 vr : X.ownsRow (L + 1) 20 1 v2 (n + 1) (vl ++ [x])
 ap : ∀ q,v1.ownBlock = some q → v2.ownBlock ≠ some q
 r2 : X.heap[w.heap.size + 1]? = some (.cells #[k,.string t2] 86 (0,0))
 r3 : X.heap[w.heap.size + 1 + 1]? = some (.cells #[x,.string t3] 86 (0,0))
 be : Below L w X
 lw : L < w.heap.size
 fr : ∀ q,q < w.heap.size → q ≠ L → ks.ownBlock ≠ some q → vs.ownBlock ≠ some q → X.heap[q]? = w.heap[q]?
 o1 : ∀ q,q < w.heap.size → v1.ownBlock = some q → ks.ownBlock = some q
 o2 : ∀ q,q < w.heap.size → v2.ownBlock = some q → vs.ownBlock = some q
theorem F7.ap2 {v1 : Value} (h : F7 w X L E1 E2 ks v1 vs n kl vl k x t2 t3) {v2 : Value} {w2 : World} (ho : w2.ownsRow (L + 1) 20 1 v2 (n + 1) (vl ++ [x])) (hg : X.grownBy w2 vs.ownBlock) (cM : v2.ownBlock = vs.ownBlock ∨ ∃ b,v2.ownBlock = some b ∧ X.heap.size ≤ b) : Mu w w2 L E1 E2 ks v1 vs v2 n kl vl k x t2 t3 := by
 have hb : ∀ q,vs.ownBlock = some q → L + 1 ≤ q := fun q hq => dY h.vr q hq
 have hs := h.sz
 have hl := h.lw
 refine ⟨gu hg (fun e => by have := hb L e; omega) h.row,h.kr.kept hg ?_,ho,?_,gu hg (fun e => by have := h.lv _ e; omega) h.r2,gu hg (fun e => by have := h.lv _ e; omega) h.r3,h.be.trans (yR hg (fun q hq => by have := hb q hq; omega) (by omega)),h.lw,fun q h1 h2 h3 h4 => (hg.block q (by omega) (fun e => h4 e.symm)).trans (h.fr q h1 h2 h3 h4),h.o1,fun q hq e => cM.elim (fun h1 => h1.symm.trans e) (fun ⟨b,hb2,hle⟩ => absurd (Option.some.inj (hb2.symm.trans e)) (by omega))⟩
 · cases e : v1.ownBlock with
   | none => exact .inl rfl
   | some q => exact .inr (fun e2 => h.ap q e e2.symm)
 · intro q hq e
   rcases cM with cM | ⟨b,hb2,hle⟩
   · exact h.ap q hq (cM ▸ e)
   · rw [hb2] at e
     have := gq h.kr q hq
     injection e with e
     omega
theorem Mu.fin {v1 v2 : Value} (h : Mu w X L E1 E2 ks v1 vs v2 n kl vl k x t2 t3) : DI ((X.setCell ⟨L,2,none⟩ v1).setCell ⟨L,3,none⟩ v2) L E1 E2 v1 v2 (n + 1) (kl ++ [k]) (vl ++ [x]) ∧ Below L w ((X.setCell ⟨L,2,none⟩ v1).setCell ⟨L,3,none⟩ v2) ∧ ∀ q,q < w.heap.size → q ≠ L → ks.ownBlock ≠ some q → vs.ownBlock ≠ some q → ((X.setCell ⟨L,2,none⟩ v1).setCell ⟨L,3,none⟩ v2).heap[q]? = w.heap[q]? := by
 have n1 : some L ≠ v1.ownBlock := fun e => by have := dY h.kr L e.symm; omega
 have n2 : some L ≠ v2.ownBlock := fun e => by have := dY h.vr L e.symm; omega
 refine ⟨⟨?_,gC (gC h.kr (p := ⟨L,2,none⟩) n1 _) (p := ⟨L,3,none⟩) n1 _,gC (gC h.vr (p := ⟨L,2,none⟩) n2 _) (p := ⟨L,3,none⟩) n2 _,h.ap⟩,(h.be.setCell (Nat.le_refl _) _).setCell (Nat.le_refl _) _,fun q h1 h2 h3 h4 => (Below.heap_setCell _ ⟨L,3,none⟩ v2 q h2).trans ((Below.heap_setCell _ ⟨L,2,none⟩ v1 q h2).trans (h.fr q h1 h2 h3 h4))⟩
 exact heap_setCell_same _ _ 3 _ _ v2 (heap_setCell_same _ _ 2 _ _ v1 h.row)
end
theorem Na (c : UInt8) (L : Nat) (E1 E2 t1 t2 t3 : ByteArray) (dk dx : TypeId) (uk ux : Value) (lE : BV c (.iface dk uk)) (ks vs : Value) (n : Nat) (kl vl : List Value) (hn : n ≤ 100000) (cf : ∀ v ∈ kl,BV c v) (w : World) (hD : DI w L E1 E2 ks vs n kl vl) :
 Calls Tryz.prog 91 #[.agg #[.iface 170 (.pointer (some ⟨L,0,none⟩)),.string t1],.agg #[.iface dk uk,.string t2],.agg #[.iface dx ux,.string t3]] w fun e w' => e = .returned (.tuple #[]) ∧ (∃ Gi vs' n' Bl C8,n' ≤ n + 1 ∧ (∀ v ∈ Bl,BV c v) ∧ Upd n kl vl (.iface dk uk) (.iface dx ux) Bl C8 ∧ (∀ q,q < w.heap.size → Gi.ownBlock = some q → ks.ownBlock = some q) ∧ (∀ q,q < w.heap.size → vs'.ownBlock = some q → vs.ownBlock = some q) ∧ DI w' L E1 E2 Gi vs' n' Bl C8) ∧ Below L w w' ∧ ∀ q,q < w.heap.size → q ≠ L → ks.ownBlock ≠ some q → vs.ownBlock ≠ some q → w'.heap[q]? = w.heap[q]? := by
 obtain ⟨A1,GN,rfl⟩ := dX hD.k
 obtain ⟨A2,EG,rfl⟩ := dX hD.v
 have HD := U.mk hD
 have Ut := U.mk lE
 have J2 := U.mk cf
 have ZQ := (Array.getElem?_eq_some_iff.1 hD.row).1
 have r3 := heap_alloc_new ((w.alloc (.cells #[.iface 170 (.pointer (some ⟨L,0,none⟩)),.string t1] 86)).alloc (.cells #[.iface dk uk,.string t2] 86)) (.cells #[.iface dx ux,.string t3] 86)
 have r2 := aQ (ab (Below.refl _ _) (.cells #[.iface dx ux,.string t3] 86)) (heap_alloc_new (w.alloc (.cells #[.iface 170 (.pointer (some ⟨L,0,none⟩)),.string t1] 86)) (.cells #[.iface dk uk,.string t2] 86))
 simp only [World.size_alloc] at r3 r2
 have BH : DI (((w.alloc (.cells #[.iface 170 (.pointer (some ⟨L,0,none⟩)),.string t1] 86)).alloc (.cells #[.iface dk uk,.string t2] 86)).alloc (.cells #[.iface dx ux,.string t3] 86)) L E1 E2 (.slice A1 n GN) (.slice A2 n EG) n kl vl := ⟨aQ (ab (ab (ab (Below.refl _ _) _) _) _) hD.row,((hD.k.alloc _).alloc _).alloc _,((hD.v.alloc _).alloc _).alloc _,hD.ap⟩
 have Lh : Below w.heap.size w (((w.alloc (.cells #[.iface 170 (.pointer (some ⟨L,0,none⟩)),.string t1] 86)).alloc (.cells #[.iface dk uk,.string t2] 86)).alloc (.cells #[.iface dx ux,.string t3] 86)) := ab (ab (ab (Below.refl w.heap.size w) _) _) _
 have hBL : Below L w (((w.alloc (.cells #[.iface 170 (.pointer (some ⟨L,0,none⟩)),.string t1] 86)).alloc (.cells #[.iface dk uk,.string t2] 86)).alloc (.cells #[.iface dx ux,.string t3] 86)) := aC (ab (ab (ab (Below.refl w.heap.size w) _) _) _) (by omega)
 have c2 := (cell_of_row _ L 2 _ 172 (0,0) BH.row).trans rfl
 have hlk := fun q hq => gq hD.k q hq
 have Je := fun q hq => gq hD.v q hq
 clear hD lE cf
 go_enter Tryz.func91,Tryz.ntmps91
 go_wp2_with fail
 generalize ((w.alloc (.cells #[.iface 170 (.pointer (some ⟨L,0,none⟩)),.string t1] 86)).alloc (.cells #[.iface dk uk,.string t2] 86)).alloc (.cells #[.iface dx ux,.string t3] 86) = W at *
 have la := U.mk BH
 have Us := U.mk hBL
 have jo := U.mk Lh
 have R2 := U.mk r2
 have R3 := U.mk r3
 have HLK := U.mk hlk
 have HLV := U.mk Je
 have kc : W.cell? ⟨w.heap.size + 1,0,none⟩ = some (.iface dk uk) := (cell_of_row W (w.heap.size + 1) 0 _ 86 (0,0) r2).trans rfl
 have xc : W.cell? ⟨w.heap.size + 1 + 1,0,none⟩ = some (.iface dx ux) := (cell_of_row W (w.heap.size + 1 + 1) 0 _ 86 (0,0) r3).trans rfl
 have d2 : W.cell? ⟨L,2,none⟩ = some (.slice A1 n GN) := (cell_of_row W L 2 _ 172 (0,0) BH.row).trans rfl
 have d3 : W.cell? ⟨L,3,none⟩ = some (.slice A2 n EG) := (cell_of_row W L 3 _ 172 (0,0) BH.row).trans rfl
 clear r2 r3 hlk Je BH hBL Lh c2
 go_loopg [16] n (fun kq MM wr => ∃ (i : Nat),MM = .int .i64 (i : Int) ∧ i ≤ n ∧ U (kq = n - i ∧ (∃ m,wr = W.drewN m) ∧ ∀ (j : Nat) k', j < i → kl[j]? = some k' → KN k' (.iface dk uk)))
 case atStart => exact ⟨0,rfl,by omega,⟨rfl,⟨0,rfl⟩,fun j k' h => absurd h (by omega)⟩⟩
 case round=>
  obtain ⟨i,rfl,hi,HI⟩ := hrel
  obtain ⟨m,rfl⟩ := HI.out.2.1
  have HNE := U.mk HI.out.2.2
  have fP := U.mk HI.out.1
  clear HI
  by_cases hlt : i < n
  · have hd : decide ((i : Int) < (n : Int)) = true := by simpa using hlt
    have iI : IntKind.i64.wrap ((i : Int) + 1) = ((i + 1 : Nat) : Int) := by rw [IntKind.wrap_i64]; omega
    have hlen : kl.length = n := by simpa using la.out.k.1
    have ahj : vl.length = n := by simpa using la.out.v.1
    obtain ⟨k,hk⟩ : ∃ k,kl[i]? = some k := ⟨kl[i],List.getElem?_eq_getElem (by omega)⟩
    obtain ⟨y,hy⟩ : ∃ y,vl[i]? = some y := ⟨vl[i],List.getElem?_eq_getElem (by omega)⟩
    obtain ⟨g1,rfl,fM,Ez⟩ := hJ la.out.k i k hk
    obtain ⟨g2,rfl,lD,Dj⟩ := hJ la.out.v i y hy
    have lE := J2.out k (List.mem_of_getElem? hk)
    obtain ⟨O3,MS,rfl⟩ := adn lE
    obtain ⟨b,ZJ⟩ := abb lE Ut.out
    clear lE
    have Gy : (0 : Int) ≤ (i : Int) := by omega
    have hi1 : (i : Int) < (n : Int) := by omega
    have HKI := U.mk hk
    clear hk hy
    go_wp2_with fail
    go_quiet (fail)
    have aih : g2 < w.heap.size := HLV.out g2 rfl
    have aeU : g2 ≠ L := by omega
    have hzf : ∀ nn,(W.drewN nn).frozen? ⟨g2,i,none⟩ = false := fun nn => by
     rcases la.out.v.2 with ⟨e,_⟩ | ⟨g', cap', cur,e,_,hh,_⟩
     · cases e
     · injection e with e _ _
       injection e with e
       injection e with e
       subst e
       exact frozen_of_row W g2 i _ 20 hh
    cases b
    · have HBQ := U.mk ZJ
      go_wp2_with fail
      go_roundg (n - (i + 1))
      case measure => have := fP.out; omega
      case rel=>
       refine ⟨i + 1,by simp,by omega,⟨rfl,⟨_,rfl⟩,fun j k' hj Zt => ?_⟩⟩
       by_cases fF : j = i
       · subst fF
         rw [HKI.out] at Zt
         obtain rfl := Option.some.inj Zt
         exact HBQ.out
       · exact HNE.out j k' (by omega) Zt
    · go_wp2_with fail
      go_region_held3 (fun w' => w'.cell? ⟨L,3,none⟩ = some (.slice (some ⟨g2,0,none⟩) n EG) ∧ w'.cell? ⟨w.heap.size + 1 + 1,0,none⟩ = some (.iface dx ux)) (first | exact ⟨d3,xc⟩ | (constructor <;> go_keep) | (constructor <;> (rw [World.cell?_setCell_other _ _ _ _ (by intro e; injection e with e; omega)]; first | exact d3 | exact xc)))
       (fail)
      go_wp2_with fail
      refine bodyPost_ret (Hd _ _) rfl ?_
      refine ⟨rfl,⟨_,_,n,kl,vl.set i (.iface dx ux),by omega,J2.out,Or.inl ⟨rfl,i,hlt,rfl⟩,fun _ _ h => h,fun _ _ h => h,la.out.put hlt aeU _ _⟩,?_⟩
      exact ⟨(ai Us.out _).setCell (by show L ≤ g2; omega) _,fun q h1 h2 h3 h4 => (Below.heap_setCell _ ⟨g2,i,none⟩ _ q (fun e => h4 (by rw [e]; rfl))).trans (jo.out.block q h1)⟩
  · have hd : decide ((i : Int) < (n : Int)) = false := by simpa using hlt
    have HNA : U (∀ (j : Nat) k', kl[j]? = some k' → KN k' (.iface dk uk)) := ⟨fun j k' hj => HNE.out j k' (by have h1 := (List.getElem?_eq_some_iff.1 hj).1; have h2 : kl.length = n := (by simpa using la.out.k.1); omega) hj⟩
    clear HNE
    go_wp2_with fail
    replace la : U (DI (W.drewN m).drew L E1 E2 (.slice A1 n GN) (.slice A2 n EG) n kl vl) := ⟨⟨la.out.row,la.out.k,la.out.v,la.out.ap⟩⟩
    have E8 : U (F6 w (W.drewN m).drew L E1 E2 (.slice A1 n GN) (.slice A2 n EG) n kl vl (.iface dk uk) (.iface dx ux) t2 t3) := ⟨⟨la.out,R2.out,R3.out,HLK.out,HLV.out,ZQ,(Array.getElem?_eq_some_iff.1 R3.out).1,ak (ai Us.out m),fun q h1 _ _ _ => jo.out.block q h1⟩⟩
    refine wp_region_noPanic ?_
    refine AH (S := (fun w' => w'.cell? ⟨L,2,none⟩ = some (.slice A1 n GN) ∧ w'.cell? ⟨L,3,none⟩ = some (.slice A2 n EG) ∧ w'.cell? ⟨w.heap.size + 1,0,none⟩ = some (.iface dk uk) ∧ w'.cell? ⟨w.heap.size + 1 + 1,0,none⟩ = some (.iface dx ux))) (ds := [20,23]) (by kernel_rfl) (ga E8.out.di.row E8.out.r2 E8.out.r3) (fun hHeld => ?_)
    generalize (W.drewN m).drew = X at *
    clear la d2 d3 kc xc
    refine cX (i := 0) (v := ?_) rfl (by kernel_rfl) (by kernel_rfl) (by kernel_rfl) (fun _ _ _ h => h) (Or.inl ⟨by rfl,?_⟩) ?_
    rotate_left
    · intro w
      go_simp <;> with_reducible rfl
    try simp only [Act.put,List.setIfInBounds_toArray,List.set_cons_zero,List.set_cons_succ]
    refine cX (i := 1) (v := ?_) rfl (by kernel_rfl) (by kernel_rfl) (by kernel_rfl) (fun _ _ _ h => h) (Or.inl ⟨by rfl,?_⟩) ?_
    rotate_left
    · intro w
      go_simp <;> with_reducible rfl
    try simp only [Act.put,List.setIfInBounds_toArray,List.set_cons_zero,List.set_cons_succ]
    refine cX (i := 2) (v := ?_) rfl (by kernel_rfl) (by kernel_rfl) (by kernel_rfl) (fun _ _ _ h => h) (Or.inl ⟨by rfl,?_⟩) ?_
    rotate_left
    · intro w
      go_simp <;> with_reducible rfl
    try simp only [Act.put,List.setIfInBounds_toArray,List.set_cons_zero,List.set_cons_succ]
    refine cX (i := 3) (v := ?_) rfl (by kernel_rfl) (by kernel_rfl) (by kernel_rfl) (fun _ _ _ h => h) (Or.inl ⟨by rfl,?_⟩) ?_
    rotate_left
    · intro w
      go_simp <;> with_reducible rfl
    try simp only [Act.put,List.setIfInBounds_toArray,List.set_cons_zero,List.set_cons_succ]
    refine cX (i := 4) (v := ?_) rfl (by kernel_rfl) (by kernel_rfl) (by kernel_rfl) (fun _ _ _ h => h) (Or.inl ⟨by rfl,?_⟩) ?_
    rotate_left
    · intro w
      go_simp <;> with_reducible rfl
    try simp only [Act.put,List.setIfInBounds_toArray,List.set_cons_zero,List.set_cons_succ]
    refine gF (i := 5) (v := ?_) rfl (by kernel_rfl) (by kernel_rfl) (by kernel_rfl) (by kernel_rfl) (by kernel_rfl) (fun _ _ _ h => h) (Or.inl ⟨by rfl,?_⟩) (by assumption) ?_
    rotate_left
    · intro w hSw
      try dsimp only at hSw
      go_simp <;> with_reducible rfl
    try simp only [Act.put,List.setIfInBounds_toArray,List.set_cons_zero,List.set_cons_succ]
    refine cX (i := 6) (v := ?_) rfl (by kernel_rfl) (by kernel_rfl) (by kernel_rfl) (fun _ _ _ h => h) (Or.inl ⟨by rfl,?_⟩) ?_
    rotate_left
    · intro w
      go_simp <;> with_reducible rfl
    try simp only [Act.put,List.setIfInBounds_toArray,List.set_cons_zero,List.set_cons_succ]
    refine gF (i := 7) (v := ?_) rfl (by kernel_rfl) (by kernel_rfl) (by kernel_rfl) (by kernel_rfl) (by kernel_rfl) (fun _ _ _ h => h) (Or.inl ⟨by rfl,?_⟩) (by assumption) ?_
    rotate_left
    · intro w hSw
      try dsimp only at hSw
      go_simp <;> with_reducible rfl
    try simp only [Act.put,List.setIfInBounds_toArray,List.set_cons_zero,List.set_cons_succ]
    refine cX (i := 10) (v := ?_) rfl (by kernel_rfl) (by kernel_rfl) (by kernel_rfl) (fun _ _ _ h => h) (Or.inl ⟨by rfl,?_⟩) ?_
    rotate_left
    · intro w
      go_simp <;> with_reducible rfl
    try simp only [Act.put,List.setIfInBounds_toArray,List.set_cons_zero,List.set_cons_succ]
    refine cX (i := 11) (v := ?_) rfl (by kernel_rfl) (by kernel_rfl) (by kernel_rfl) (fun _ _ _ h => h) (Or.inl ⟨by rfl,?_⟩) ?_
    rotate_left
    · intro w
      go_simp <;> with_reducible rfl
    try simp only [Act.put,List.setIfInBounds_toArray,List.set_cons_zero,List.set_cons_succ]
    refine cX (i := 12) (v := ?_) rfl (by kernel_rfl) (by kernel_rfl) (by kernel_rfl) (fun _ _ _ h => h) (Or.inl ⟨by rfl,?_⟩) ?_
    rotate_left
    · intro w
      go_simp <;> with_reducible rfl
    try simp only [Act.put,List.setIfInBounds_toArray,List.set_cons_zero,List.set_cons_succ]
    refine gF (i := 13) (v := ?_) rfl (by kernel_rfl) (by kernel_rfl) (by kernel_rfl) (by kernel_rfl) (by kernel_rfl) (fun _ _ _ h => h) (Or.inl ⟨by rfl,?_⟩) (by assumption) ?_
    rotate_left
    · intro w hSw
      try dsimp only at hSw
      go_simp <;> with_reducible rfl
    try simp only [Act.put,List.setIfInBounds_toArray,List.set_cons_zero,List.set_cons_succ]
    refine cX (i := 14) (v := ?_) rfl (by kernel_rfl) (by kernel_rfl) (by kernel_rfl) (fun _ _ _ h => h) (Or.inl ⟨by rfl,?_⟩) ?_
    rotate_left
    · intro w
      go_simp <;> with_reducible rfl
    try simp only [Act.put,List.setIfInBounds_toArray,List.set_cons_zero,List.set_cons_succ]
    refine gF (i := 15) (v := ?_) rfl (by kernel_rfl) (by kernel_rfl) (by kernel_rfl) (by kernel_rfl) (by kernel_rfl) (fun _ _ _ h => h) (Or.inl ⟨by rfl,?_⟩) (by assumption) ?_
    rotate_left
    · intro w hSw
      try dsimp only at hSw
      go_simp <;> with_reducible rfl
    try simp only [Act.put,List.setIfInBounds_toArray,List.set_cons_zero,List.set_cons_succ]
    refine bI (rs := [8,16]) (by kernel_rfl) (by simp) ?_
    refine bd.cons rfl (by decide) (fun K hK => ?_) ?_
    rotate_left
    refine bd.cons rfl (by decide) (fun K hK => ?_) bd.nil
    · have hB : True := trivial
      have kZ := U.mk (E8.out.alloc (.cells #[.iface dx ux] 20))
      have jy := (cell_of_row _ _ 0 _ 20 (0,0) (heap_alloc_new X (.cells #[.iface dx ux] 20))).trans rfl
      go_simp
      refine hK.out _ _ (ga kZ.out.di.row kZ.out.r2 kZ.out.r3) (fun hHeld => ?_)
      clear hK K
      try simp only [Act.put,List.setIfInBounds_toArray,List.set_cons_zero,List.set_cons_succ]
      refine bI (rs := [8]) (by kernel_rfl) (by simp) ?_
      refine bd.cons rfl (by decide) (fun K hK => ?_) bd.nil
      have vI := U.mk (kZ.out.alloc (.cells #[.iface dk uk] 20))
      go_simp
      refine hK.out _ _ (ga vI.out.di.row vI.out.r2 vI.out.r3) (fun hHeld => ?_)
      clear hK K
      try simp only [Act.put,List.setIfInBounds_toArray,List.set_cons_zero,List.set_cons_succ]
      refine bI (rs := [9]) (by kernel_rfl) (by simp) ?_
      refine bd.cons rfl (by decide) (fun K hK => ?_) bd.nil
      refine lL (L + 1) rfl _ _ rfl (.slice A1 n GN) n kl (.iface dk uk) ⟨X.heap.size + 1,0,none⟩ (by simp [Act.eval,Act.put]) (by simp [Act.eval,Act.put]) (by have h := heap_alloc_new (X.alloc (.cells #[.iface dx ux] 20)) (.cells #[.iface dk uk] 20); rw [World.size_alloc] at h; exact (cell_of_row _ _ 0 _ 20 (0,0) h).trans rfl) rfl vI.out.di.k (by have := vI.out.sz; have := vI.out.lw; omega) (by omega) ?_
      intro v1 w1 jn fM jq
      obtain ⟨A3,c3,rfl⟩ := dX jn
      have jS := U.mk (vI.out.ap1 jn fM jq)
      have xw := (cell_of_row _ X.heap.size 0 _ 20 (0,0) (gu fM (fun e => by have := E8.out.lk _ e; have := E8.out.sz; omega) (aQ (ab (Below.refl _ _) (.cells #[.iface dk uk] 20)) (heap_alloc_new X (.cells #[.iface dx ux] 20))))).trans rfl
      clear jn fM jq
      refine hK.out _ _ (ga jS.out.row jS.out.r2 jS.out.r3) (fun hHeld => ?_)
      clear hK K
      try simp only [Act.put,List.setIfInBounds_toArray,List.set_cons_zero,List.set_cons_succ]
      refine bI (rs := [17]) (by kernel_rfl) (by simp) ?_
      refine bd.cons rfl (by decide) (fun K hK => ?_) bd.nil
      refine lL (L + 1) rfl _ _ rfl (.slice A2 n EG) n vl (.iface dx ux) ⟨X.heap.size,0,none⟩ (by simp [Act.eval,Act.put]) (by simp [Act.eval,Act.put]) xw rfl jS.out.vr (by have := jS.out.sz; have := jS.out.lw; omega) (by omega) ?_
      intro v2 w2 xz lD BC
      obtain ⟨A4,c4,rfl⟩ := dX xz
      have HP := U.mk (jS.out.ap2 xz lD BC)
      clear xz lD BC
      refine hK.out _ _ (ga HP.out.row HP.out.r2 HP.out.r3) (fun hHeld => ?_)
      clear hK K
      try simp only [Act.put,List.setIfInBounds_toArray,List.set_cons_zero,List.set_cons_succ]
      have e2 := (ga HP.out.row HP.out.r2 HP.out.r3).1
      have e3 := (ga HP.out.row HP.out.r2 HP.out.r3).2.1
      have z2 := frozen_of_row w2 L 2 _ 172 HP.out.row
      have z3 := frozen_of_row w2 L 3 _ 172 HP.out.row
      refine cX (i := 18) (v := ?_) rfl (by kernel_rfl) (by kernel_rfl) (by kernel_rfl) (fun _ _ _ h => h) (Or.inl ⟨by rfl,?_⟩) ?_
      rotate_left
      · intro w
        go_simp <;> with_reducible rfl
      try simp only [Act.put,List.setIfInBounds_toArray,List.set_cons_zero,List.set_cons_succ]
      refine cX (i := 19) (v := ?_) rfl (by kernel_rfl) (by kernel_rfl) (by kernel_rfl) (fun _ _ _ h => h) (Or.inl ⟨by rfl,?_⟩) ?_
      rotate_left
      · intro w
        go_simp <;> with_reducible rfl
      try simp only [Act.put,List.setIfInBounds_toArray,List.set_cons_zero,List.set_cons_succ]
      refine bI (rs := [20]) (by kernel_rfl) (by simp) ?_
      refine bd.ja rfl (by decide) (fun K hK => ?_) bd.nil
      go_simp
      refine hK.out _ _ ?_
      clear hK K
      try simp only [Act.put,List.setIfInBounds_toArray,List.set_cons_zero,List.set_cons_succ]
      refine cX (i := 21) (v := ?_) rfl (by kernel_rfl) (by kernel_rfl) (by kernel_rfl) (fun _ _ _ h => h) (Or.inl ⟨by rfl,?_⟩) ?_
      rotate_left
      · intro w
        go_simp <;> with_reducible rfl
      try simp only [Act.put,List.setIfInBounds_toArray,List.set_cons_zero,List.set_cons_succ]
      refine cX (i := 22) (v := ?_) rfl (by kernel_rfl) (by kernel_rfl) (by kernel_rfl) (fun _ _ _ h => h) (Or.inl ⟨by rfl,?_⟩) ?_
      rotate_left
      · intro w
        go_simp <;> with_reducible rfl
      try simp only [Act.put,List.setIfInBounds_toArray,List.set_cons_zero,List.set_cons_succ]
      refine bI (rs := [23]) (by kernel_rfl) (by simp) ?_
      refine bd.ja rfl (by decide) (fun K hK => ?_) bd.nil
      go_simp
      refine hK.out _ _ ?_
      clear hK K
      try simp only [Act.put,List.setIfInBounds_toArray,List.set_cons_zero,List.set_cons_succ]
      refine je (by kernel_rfl) ?_ _
      refine NoPanic.normal ?_
      go_wp2_with fail
      refine bodyPost_end (Hd _ _) rfl ?_
      exact ⟨rfl,⟨_,_,_,_,_,Nat.le_refl _,F0 J2.out Ut.out,Or.inr ⟨rfl,rfl,HNA.out⟩,HP.out.o1,HP.out.o2,HP.out.fin.1⟩,HP.out.fin.2⟩
    · have kZ := U.mk (E8.out.alloc (.cells #[.iface dk uk] 20))
      go_simp
      refine hK.out _ _ (ga kZ.out.di.row kZ.out.r2 kZ.out.r3) (fun hHeld => ?_)
      clear hK K
      try simp only [Act.put,List.setIfInBounds_toArray,List.set_cons_zero,List.set_cons_succ]
      refine bI (rs := [9,16]) (by kernel_rfl) (by simp) ?_
      refine bd.cons rfl (by decide) (fun K hK => ?_) ?_
      rotate_left
      refine bd.cons rfl (by decide) (fun K hK => ?_) bd.nil
      · have vI := U.mk (kZ.out.alloc (.cells #[.iface dx ux] 20))
        go_simp
        refine hK.out _ _ (ga vI.out.di.row vI.out.r2 vI.out.r3) (fun hHeld => ?_)
        clear hK K
        try simp only [Act.put,List.setIfInBounds_toArray,List.set_cons_zero,List.set_cons_succ]
        refine bI (rs := [9]) (by kernel_rfl) (by simp) ?_
        refine bd.cons rfl (by decide) (fun K hK => ?_) bd.nil
        refine lL (L + 1) rfl _ _ rfl (.slice A1 n GN) n kl (.iface dk uk) ⟨X.heap.size,0,none⟩ (by simp [Act.eval,Act.put]) (by simp [Act.eval,Act.put]) ((cell_of_row _ _ 0 _ 20 (0,0) (aQ (ab (Below.refl _ _) (.cells #[.iface dx ux] 20)) (heap_alloc_new X (.cells #[.iface dk uk] 20)))).trans rfl) rfl vI.out.di.k (by have := vI.out.sz; have := vI.out.lw; omega) (by omega) ?_
        intro v1 w1 jn fM jq
        obtain ⟨A3,c3,rfl⟩ := dX jn
        have jS := U.mk (vI.out.ap1 jn fM jq)
        have xw := (cell_of_row _ (X.heap.size + 1) 0 _ 20 (0,0) (gu fM (fun e => by have := E8.out.lk _ e; have := E8.out.sz; omega) (by have h := heap_alloc_new (X.alloc (.cells #[.iface dk uk] 20)) (.cells #[.iface dx ux] 20); rw [World.size_alloc] at h; exact h))).trans rfl
        clear jn fM jq
        refine hK.out _ _ (ga jS.out.row jS.out.r2 jS.out.r3) (fun hHeld => ?_)
        clear hK K
        try simp only [Act.put,List.setIfInBounds_toArray,List.set_cons_zero,List.set_cons_succ]
        refine bI (rs := [17]) (by kernel_rfl) (by simp) ?_
        refine bd.cons rfl (by decide) (fun K hK => ?_) bd.nil
        refine lL (L + 1) rfl _ _ rfl (.slice A2 n EG) n vl (.iface dx ux) ⟨X.heap.size + 1,0,none⟩ (by simp [Act.eval,Act.put]) (by simp [Act.eval,Act.put]) xw rfl jS.out.vr (by have := jS.out.sz; have := jS.out.lw; omega) (by omega) ?_
        intro v2 w2 xz lD BC
        obtain ⟨A4,c4,rfl⟩ := dX xz
        have HP := U.mk (jS.out.ap2 xz lD BC)
        clear xz lD BC
        refine hK.out _ _ (ga HP.out.row HP.out.r2 HP.out.r3) (fun hHeld => ?_)
        clear hK K
        try simp only [Act.put,List.setIfInBounds_toArray,List.set_cons_zero,List.set_cons_succ]
        have e2 := (ga HP.out.row HP.out.r2 HP.out.r3).1
        have e3 := (ga HP.out.row HP.out.r2 HP.out.r3).2.1
        have z2 := frozen_of_row w2 L 2 _ 172 HP.out.row
        have z3 := frozen_of_row w2 L 3 _ 172 HP.out.row
        refine cX (i := 18) (v := ?_) rfl (by kernel_rfl) (by kernel_rfl) (by kernel_rfl) (fun _ _ _ h => h) (Or.inl ⟨by rfl,?_⟩) ?_
        rotate_left
        · intro w
          go_simp <;> with_reducible rfl
        try simp only [Act.put,List.setIfInBounds_toArray,List.set_cons_zero,List.set_cons_succ]
        refine cX (i := 19) (v := ?_) rfl (by kernel_rfl) (by kernel_rfl) (by kernel_rfl) (fun _ _ _ h => h) (Or.inl ⟨by rfl,?_⟩) ?_
        rotate_left
        · intro w
          go_simp <;> with_reducible rfl
        try simp only [Act.put,List.setIfInBounds_toArray,List.set_cons_zero,List.set_cons_succ]
        refine bI (rs := [20]) (by kernel_rfl) (by simp) ?_
        refine bd.ja rfl (by decide) (fun K hK => ?_) bd.nil
        go_simp
        refine hK.out _ _ ?_
        clear hK K
        try simp only [Act.put,List.setIfInBounds_toArray,List.set_cons_zero,List.set_cons_succ]
        refine cX (i := 21) (v := ?_) rfl (by kernel_rfl) (by kernel_rfl) (by kernel_rfl) (fun _ _ _ h => h) (Or.inl ⟨by rfl,?_⟩) ?_
        rotate_left
        · intro w
          go_simp <;> with_reducible rfl
        try simp only [Act.put,List.setIfInBounds_toArray,List.set_cons_zero,List.set_cons_succ]
        refine cX (i := 22) (v := ?_) rfl (by kernel_rfl) (by kernel_rfl) (by kernel_rfl) (fun _ _ _ h => h) (Or.inl ⟨by rfl,?_⟩) ?_
        rotate_left
        · intro w
          go_simp <;> with_reducible rfl
        try simp only [Act.put,List.setIfInBounds_toArray,List.set_cons_zero,List.set_cons_succ]
        refine bI (rs := [23]) (by kernel_rfl) (by simp) ?_
        refine bd.ja rfl (by decide) (fun K hK => ?_) bd.nil
        go_simp
        refine hK.out _ _ ?_
        clear hK K
        try simp only [Act.put,List.setIfInBounds_toArray,List.set_cons_zero,List.set_cons_succ]
        refine je (by kernel_rfl) ?_ _
        refine NoPanic.normal ?_
        go_wp2_with fail
        refine bodyPost_end (Hd _ _) rfl ?_
        exact ⟨rfl,⟨_,_,_,_,_,Nat.le_refl _,F0 J2.out Ut.out,Or.inr ⟨rfl,rfl,HNA.out⟩,HP.out.o1,HP.out.o2,HP.out.fin.1⟩,HP.out.fin.2⟩
      · have HB : True := trivial
        refine lL (L + 1) rfl _ _ rfl (.slice A1 n GN) n kl (.iface dk uk) ⟨X.heap.size,0,none⟩ (by simp [Act.eval,Act.put]) (by simp [Act.eval,Act.put]) ((cell_of_row _ _ 0 _ 20 (0,0) (heap_alloc_new X (.cells #[.iface dk uk] 20))).trans rfl) rfl kZ.out.di.k (by have := kZ.out.sz; have := kZ.out.lw; omega) (by omega) ?_
        intro v1 w1 jn fM jq
        obtain ⟨A3,c3,rfl⟩ := dX jn
        have jS := U.mk (kZ.out.ap1 jn fM jq)
        clear jn fM jq
        refine hK.out _ _ (ga jS.out.row jS.out.r2 jS.out.r3) (fun hHeld => ?_)
        clear hK K
        try simp only [Act.put,List.setIfInBounds_toArray,List.set_cons_zero,List.set_cons_succ]
        refine bI (rs := [16]) (by kernel_rfl) (by simp) ?_
        refine bd.cons rfl (by decide) (fun K hK => ?_) bd.nil
        have J0 := U.mk (jS.out.alloc (.cells #[.iface dx ux] 20))
        go_simp
        refine hK.out _ _ (ga J0.out.row J0.out.r2 J0.out.r3) (fun hHeld => ?_)
        clear hK K
        try simp only [Act.put,List.setIfInBounds_toArray,List.set_cons_zero,List.set_cons_succ]
        refine bI (rs := [17]) (by kernel_rfl) (by simp) ?_
        refine bd.cons rfl (by decide) (fun K hK => ?_) bd.nil
        refine lL (L + 1) rfl _ _ rfl (.slice A2 n EG) n vl (.iface dx ux) ⟨w1.heap.size,0,none⟩ (by simp [Act.eval,Act.put]) (by simp [Act.eval,Act.put]) ((cell_of_row _ _ 0 _ 20 (0,0) (heap_alloc_new w1 (.cells #[.iface dx ux] 20))).trans rfl) rfl J0.out.vr (by have := J0.out.sz; have := J0.out.lw; omega) (by omega) ?_
        intro v2 w2 xz lD BC
        obtain ⟨A4,c4,rfl⟩ := dX xz
        have HP := U.mk (J0.out.ap2 xz lD BC)
        clear xz lD BC
        refine hK.out _ _ (ga HP.out.row HP.out.r2 HP.out.r3) (fun hHeld => ?_)
        clear hK K
        try simp only [Act.put,List.setIfInBounds_toArray,List.set_cons_zero,List.set_cons_succ]
        have e2 := (ga HP.out.row HP.out.r2 HP.out.r3).1
        have e3 := (ga HP.out.row HP.out.r2 HP.out.r3).2.1
        have z2 := frozen_of_row w2 L 2 _ 172 HP.out.row
        have z3 := frozen_of_row w2 L 3 _ 172 HP.out.row
        refine cX (i := 18) (v := ?_) rfl (by kernel_rfl) (by kernel_rfl) (by kernel_rfl) (fun _ _ _ h => h) (Or.inl ⟨by rfl,?_⟩) ?_
        rotate_left
        · intro w
          go_simp <;> with_reducible rfl
        try simp only [Act.put,List.setIfInBounds_toArray,List.set_cons_zero,List.set_cons_succ]
        refine cX (i := 19) (v := ?_) rfl (by kernel_rfl) (by kernel_rfl) (by kernel_rfl) (fun _ _ _ h => h) (Or.inl ⟨by rfl,?_⟩) ?_
        rotate_left
        · intro w
          go_simp <;> with_reducible rfl
        try simp only [Act.put,List.setIfInBounds_toArray,List.set_cons_zero,List.set_cons_succ]
        refine bI (rs := [20]) (by kernel_rfl) (by simp) ?_
        refine bd.ja rfl (by decide) (fun K hK => ?_) bd.nil
        go_simp
        refine hK.out _ _ ?_
        clear hK K
        try simp only [Act.put,List.setIfInBounds_toArray,List.set_cons_zero,List.set_cons_succ]
        refine cX (i := 21) (v := ?_) rfl (by kernel_rfl) (by kernel_rfl) (by kernel_rfl) (fun _ _ _ h => h) (Or.inl ⟨by rfl,?_⟩) ?_
        rotate_left
        · intro w
          go_simp <;> with_reducible rfl
        try simp only [Act.put,List.setIfInBounds_toArray,List.set_cons_zero,List.set_cons_succ]
        refine cX (i := 22) (v := ?_) rfl (by kernel_rfl) (by kernel_rfl) (by kernel_rfl) (fun _ _ _ h => h) (Or.inl ⟨by rfl,?_⟩) ?_
        rotate_left
        · intro w
          go_simp <;> with_reducible rfl
        try simp only [Act.put,List.setIfInBounds_toArray,List.set_cons_zero,List.set_cons_succ]
        refine bI (rs := [23]) (by kernel_rfl) (by simp) ?_
        refine bd.ja rfl (by decide) (fun K hK => ?_) bd.nil
        go_simp
        refine hK.out _ _ ?_
        clear hK K
        try simp only [Act.put,List.setIfInBounds_toArray,List.set_cons_zero,List.set_cons_succ]
        refine je (by kernel_rfl) ?_ _
        refine NoPanic.normal ?_
        go_wp2_with fail
        refine bodyPost_end (Hd _ _) rfl ?_
        exact ⟨rfl,⟨_,_,_,_,_,Nat.le_refl _,F0 J2.out Ut.out,Or.inr ⟨rfl,rfl,HNA.out⟩,HP.out.o1,HP.out.o2,HP.out.fin.1⟩,HP.out.fin.2⟩
end Go.Proofs.YtkdebhgccpfkiaaGreatDoor.au
namespace Go.Proofs.YtkdebhgccpfkiaaGreatDoor.au
open Go.RowKit Go.Proofs.aa.az Go.Proofs.aa.aM Go.Proofs.aa.aU
attribute [local go_sem] ba bh
set_option linter.unusedVariables false
set_option linter.unusedSimpArgs false
attribute [local go_sem] jB kK iy fW fV fw fU fT
open Go.Proofs.YtkdebhgccpfkiaaGreatDoor.fD Go.Proofs.YtkdebhgccpfkiaaGreatDoor.fO Go.Proofs.YtkdebhgccpfkiaaGreatDoor.gw
def KE (u : Value) : Prop := ∀ w,(binOp BinOp.eql 20 u u).run Tryz.prog w = .ok (.bool true) w
structure DE (w : World) (lo L : Nat) (ks vs : Value) (kl vl : List Value) (c : UInt8) (te : List UInt8) (d T : Nat) (Ks : List Nat) : Prop where
 len : Ks.length = kl.length
 sum : Ks.sum ≤ T
 ev : ∀ (j : Nat) k v,kl[j]? = some k → vl[j]? = some v → ∃ S1 S2 K1 K2,EV w S1 k [c] d K1 ∧ EV w S2 v te d K2 ∧ K1 + K2 + 8 ≤ Ks.getD j 0 ∧ (∃ dT q,k = .iface dT q) ∧ (∃ dT q,v = .iface dT q) ∧ (∀ q,S1 q → lo ≤ q ∧ q ≠ L ∧ ks.ownBlock ≠ some q ∧ vs.ownBlock ≠ some q) ∧ ∀ q,S2 q → lo ≤ q ∧ q ≠ L ∧ ks.ownBlock ≠ some q ∧ vs.ownBlock ≠ some q
 kn : ∀ (i j : Nat) k1 k2,j < i → kl[j]? = some k1 → kl[i]? = some k2 → KN k1 k2
theorem DI.dd {w : World} {L : Nat} {K E : ByteArray} {ks vs : Value} {n : Nat} {kl vl : List Value} (h : DI w L K E ks vs n kl vl) : ∃ A1 A2 c1 c2,ks = .slice (A1.map fun g => (⟨g,0,none⟩ : Addr)) n c1 ∧ vs = .slice (A2.map fun g => (⟨g,0,none⟩ : Addr)) n c2 ∧ Dd w L K E A1 A2 c1 c2 kl vl := by
 obtain ⟨A1,c1,rfl⟩ := Is h.k
 obtain ⟨A2,c2,rfl⟩ := Is h.v
 have l1 : kl.length = n := by simpa using h.k.1
 have l2 : vl.length = n := by simpa using h.v.1
 refine ⟨A1,A2,c1,c2,rfl,rfl,by rw [l1,l2]; exact h.row,fun j v hj => ?_,fun j v hj => ?_⟩
 · obtain ⟨g,e,_,hc⟩ := hJ h.k j v hj
   cases A1 with
   | none => cases e
   | some g2=>
     obtain rfl : g2 = g := by simp at e; exact e
     exact ⟨g2,rfl,hc⟩
 · obtain ⟨g,e,_,hc⟩ := hJ h.v j v hj
   cases A2 with
   | none => cases e
   | some g2=>
     obtain rfl : g2 = g := by simp at e; exact e
     exact ⟨g2,rfl,hc⟩
theorem DI.move {w W : World} {L : Nat} {K E : ByteArray} {ks vs : Value} {n : Nat} {kl vl : List Value} (h : DI w L K E ks vs n kl vl) (h0 : W.heap[L]? = w.heap[L]?) (h1 : ∀ q,ks.ownBlock = some q → W.heap[q]? = w.heap[q]?) (h2 : ∀ q,vs.ownBlock = some q → W.heap[q]? = w.heap[q]?) : DI W L K E ks vs n kl vl:=
 ⟨h0.trans h.row,kv h.k h1,kv h.v h2,h.ap⟩
theorem U3 (w : World) (lo L : Nat) (ks vs : Value) (n : Nat) (kl vl : List Value) (c : UInt8) (hc : fJ c = true) (te : List UInt8) (Ks : List Nat) (d T : Nat) (I2 : te.length ≤ 100000) (hD : DI w L (Bs [c]) (Bs te) ks vs n kl vl) (Zp : lo ≤ L) (hn : n ≤ 1000) (hT : T ≤ 67000000)
 (h : DE w lo L ks vs kl vl c te d T Ks) (hke : ∀ k ∈ kl,KE k) : ∃ Sx,EV w Sx (.iface 170 (.pointer (some ⟨L,0,none⟩))) (123 :: c :: te) (d + 2) (T + 60) ∧ ∀ k,Sx k → lo ≤ k := by
 have l1 : kl.length = n := by simpa using hD.k.1
 have l2 : vl.length = n := by simpa using hD.v.1
 refine ⟨fun k => k = L ∨ ks.ownBlock = some k ∨ vs.ownBlock = some k ∨ ∃ (S : Nat → Prop) (v : Value) (t : List UInt8) (d1 K1 : Nat),EV w S v t d1 K1 ∧ (∀ k,S k → lo ≤ k) ∧ S k,⟨⟨?_,?_⟩,?_⟩,?_⟩
 · rintro k (rfl | hk | hk | ⟨S,v,t,d1,K1,h1,_,hk⟩)
   · exact (Array.getElem?_eq_some_iff.1 hD.row).1
   · exact gq hD.k k hk
   · exact gq hD.v k hk
   · exact h1.ty.1 k hk
 · exact fun W hW => UB W L c te _ _ I2 ((hW L (.inl rfl)).trans hD.row) W (Below.refl _ _)
 · obtain ⟨A1,A2,c1,c2,e1,e2,Jq⟩ := hD.dd
   refine G1.more (U4 _ w L A1 A2 c1 c2 kl vl c hc te Ks d (by omega) h.len (by omega) (Nat.le_trans h.sum hT) ?_ ?_ ?_ ?_) (Nat.le_refl _) (by have := h.sum; omega)
   · intro W hW
     have hD2 := hD.move (W := W) (hW L (.inl rfl)) (fun q hq => hW q (.inr (.inl hq))) (fun q hq => hW q (.inr (.inr (.inl hq))))
     obtain ⟨B1,B2,b1,b2,f1,f2,vB⟩ := hD2.dd
     have hrow := hD2.row
     rw [e1,e2] at hrow
     exact ⟨by rw [l1,l2]; exact hrow,fun j v hj => by
      obtain ⟨g,hg,hcell⟩ := vB.k j v hj
      refine ⟨g,?_,hcell⟩
      rw [f1,hg] at e1
      cases A1 with
      | none => simp at e1
      | some a => simp at e1; rw [e1.1],fun j v hj => by
      obtain ⟨g,hg,hcell⟩ := vB.v j v hj
      refine ⟨g,?_,hcell⟩
      rw [f2,hg] at e2
      cases A2 with
      | none => simp at e2
      | some a => simp at e2; rw [e2.1]⟩
   · intro j k v hj hv
     obtain ⟨S1,S2,K1,K2,h1,h2,h3,⟨dk,uk,rfl⟩,⟨dx,ux,rfl⟩,h4,h5⟩ := h.ev j k v hj hv
     exact ⟨dk,uk,dx,ux,S1,S2,K1,K2,rfl,rfl,h1,h2,h3,fun k hk => .inr (.inr (.inr ⟨S1,_,_,_,_,h1,fun k hk => (h4 k hk).1,hk⟩)),fun k hk => .inr (.inr (.inr ⟨S2,_,_,_,_,h2,fun k hk => (h5 k hk).1,hk⟩))⟩
   · intro j d1 u hj
     exact hke _ (List.mem_of_getElem? hj)
   · intro i j d1 u1 d2 u2 fF h1 h2
     exact h.kn i j _ _ fF h1 h2
 · rintro k (rfl | hk | hk | ⟨S,v,t,d1,K1,_,h1,hk⟩)
   · exact Zp
   · have := dY hD.k k hk; omega
   · have := dY hD.v k hk; omega
   · exact h1 k hk
theorem C' (a : Nat) : ∀ (Ks : List Nat) (i : Nat),(Ks.set i (Ks.getD i 0 + a)).sum ≤ Ks.sum + a
 | [],i => by simp
 | x :: r,0 => by simp; omega
 | x :: r,i + 1 => by
   have h := C' a r i
   simp only [List.set_cons_succ,List.sum_cons,List.getD_cons_succ]
   omega
theorem DE.up {w w' : World} {lo L : Nat} {ks vs : Value} {kl vl : List Value} {c : UInt8} {te : List UInt8} {d T : Nat} {Ks : List Nat} (h : DE w lo L ks vs kl vl c te d T Ks) (hb : Below w.heap.size w w') : DE w' lo L ks vs kl vl c te d T Ks:=
 ⟨h.len,h.sum,fun j k v hj hv => by
   obtain ⟨S1,S2,K1,K2,h1,h2,h3⟩ := h.ev j k v hj hv
   exact ⟨S1,S2,K1,K2,h1.up hb,h2.up hb,h3⟩,h.kn⟩
theorem DE.step {w w9 : World} {lo L n : Nat} {ks vs Gi vs' : Value} {kl vl Bl C8 : List Value} {c : UInt8} {te : List UInt8} {d T KK : Nat} {Ks : List Nat} (h : DE w lo L ks vs kl vl c te d T Ks) (hb : w.heap.size ≤ w9.heap.size)
 (bX : ∀ q,q < w.heap.size → q ≠ L → ks.ownBlock ≠ some q → vs.ownBlock ≠ some q → w9.heap[q]? = w.heap[q]?) {S0 S1 : Nat → Prop} {d0 d1 : TypeId} {u0 u1 : Value} {K1 K2 : Nat} (h0 : EV w S0 (.iface d0 u0) [c] d K1) (h1 : EV w S1 (.iface d1 u1) te d K2)
 (f0 : ∀ q,S0 q → lo ≤ q ∧ q ≠ L ∧ ks.ownBlock ≠ some q ∧ vs.ownBlock ≠ some q) (f1 : ∀ q,S1 q → lo ≤ q ∧ q ≠ L ∧ ks.ownBlock ≠ some q ∧ vs.ownBlock ≠ some q)
 (o1 : ∀ q,q < w.heap.size → Gi.ownBlock = some q → ks.ownBlock = some q) (o2 : ∀ q,q < w.heap.size → vs'.ownBlock = some q → vs.ownBlock = some q)
 (hu : Upd n kl vl (.iface d0 u0) (.iface d1 u1) Bl C8) (cf : kl.length = n) (iJ : vl.length = n) (hK : K1 + K2 + 8 ≤ KK) : ∃ Ks', DE w9 lo L Gi vs' Bl C8 c te d (T + KK) Ks' := by
 have mv : ∀ (S : Nat → Prop) (x : Value) (t : List UInt8) (d2 K3 : Nat),EV w S x t d2 K3 → (∀ q,S q → lo ≤ q ∧ q ≠ L ∧ ks.ownBlock ≠ some q ∧ vs.ownBlock ≠ some q) → EV w9 S x t d2 K3 ∧ ∀ q,S q → lo ≤ q ∧ q ≠ L ∧ Gi.ownBlock ≠ some q ∧ vs'.ownBlock ≠ some q := by
  intro S x t d2 K3 he hf
  exact ⟨he.move hb fun q hq => bX q (he.ty.1 q hq) (hf q hq).2.1 (hf q hq).2.2.1 (hf q hq).2.2.2,fun q hq => ⟨(hf q hq).1,(hf q hq).2.1,fun e => (hf q hq).2.2.1 (o1 q (he.ty.1 q hq) e),fun e => (hf q hq).2.2.2 (o2 q (he.ty.1 q hq) e)⟩⟩
 have m0 := mv _ _ _ _ _ h0 f0
 have m1 := mv _ _ _ _ _ h1 f1
 have hlen := h.len
 rcases hu with ⟨rfl,i,hi,rfl⟩ | ⟨rfl,rfl,hne⟩
 · refine ⟨Ks.set i (Ks.getD i 0 + KK),by rw [List.length_set]; exact hlen,Nat.le_trans (C' KK Ks i) (by have := h.sum; omega),?_,h.kn⟩
   intro j k v hj hv
   by_cases fF : j = i
   · subst fF
     rw [List.getElem?_set_self (by omega)] at hv
     obtain rfl := Option.some.inj hv
     obtain ⟨T1,T2,L1,L2,g1,g2,g3,g4,_,g6,_⟩ := h.ev j k (vl[j]'(by omega)) hj (List.getElem?_eq_getElem (by omega))
     have m2 := mv _ _ _ _ _ g1 g6
     refine ⟨T1,S1,L1,K2,m2.1,m1.1,?_,g4,⟨_,_,rfl⟩,m2.2,m1.2⟩
     rw [List.getD_eq_getElem?_getD,List.getElem?_set_self (by omega)]
     simp only [Option.getD_some]
     omega
   · rw [List.getElem?_set_ne (by omega)] at hv
     obtain ⟨T1,T2,L1,L2,g1,g2,g3,g4,g5,g6,g7⟩ := h.ev j k v hj hv
     have m2 := mv _ _ _ _ _ g1 g6
     have m3 := mv _ _ _ _ _ g2 g7
     refine ⟨T1,T2,L1,L2,m2.1,m3.1,?_,g4,g5,m2.2,m3.2⟩
     rw [List.getD_eq_getElem?_getD,List.getElem?_set_ne (by omega),← List.getD_eq_getElem?_getD]
     exact g3
 · refine ⟨Ks ++ [KK],by simp [hlen],by rw [List.sum_append,List.sum_singleton]; have := h.sum; omega,?_,?_⟩
   · intro j k v hj hv
     by_cases xB : j < n
     · rw [List.getElem?_append_left (by omega)] at hj hv
       obtain ⟨T1,T2,L1,L2,g1,g2,g3,g4,g5,g6,g7⟩ := h.ev j k v hj hv
       have m2 := mv _ _ _ _ _ g1 g6
       have m3 := mv _ _ _ _ _ g2 g7
       refine ⟨T1,T2,L1,L2,m2.1,m3.1,?_,g4,g5,m2.2,m3.2⟩
       rw [List.getD_eq_getElem?_getD,List.getElem?_append_left (by omega),← List.getD_eq_getElem?_getD]
       exact g3
     · have K6 := (List.getElem?_eq_some_iff.1 hj).1
       rw [List.length_append,List.length_singleton] at K6
       obtain rfl : j = n := by omega
       rw [List.getElem?_append_right (by omega)] at hj hv
       simp only [cf,iJ,Nat.sub_self,List.getElem?_cons_zero] at hj hv
       obtain rfl := Option.some.inj hj
       obtain rfl := Option.some.inj hv
       refine ⟨S0,S1,K1,K2,m0.1,m1.1,?_,⟨_,_,rfl⟩,⟨_,_,rfl⟩,m0.2,m1.2⟩
       rw [List.getD_eq_getElem?_getD,List.getElem?_append_right (by omega)]
       simp only [hlen,cf,Nat.sub_self,List.getElem?_cons_zero,Option.getD_some]
       exact hK
   · intro i j k1 k2 fF h2 h3
     by_cases hin : i < n
     · rw [List.getElem?_append_left (by omega)] at h2 h3
       exact h.kn i j k1 k2 fF h2 h3
     · have hil := (List.getElem?_eq_some_iff.1 h3).1
       rw [List.length_append,List.length_singleton] at hil
       obtain rfl : i = n := by omega
       rw [List.getElem?_append_right (by omega)] at h3
       rw [List.getElem?_append_left (by omega)] at h2
       simp only [cf,Nat.sub_self,List.getElem?_cons_zero] at h3
       obtain rfl := Option.some.inj h3
       exact hne j k1 h2
theorem abd (x : ByteArray) : (x == x) = true := by
 first
  | exact (Go.bytes_beq x x).2 rfl
  | exact (Go.MapKept.bytes_beq x x).2 rfl
  | (cases x with | mk d => show (d == d) = true; exact beq_self_eq_true d)
  | (cases x with | mk d => simp [BEq.beq,QK.beq])
theorem adm {c : UInt8} {u : Value} (hc : c ≠ 100) (h : BV c u) : KE u := by
 unfold BV at h
 unfold KE
 rcases h with ⟨e,x,rfl⟩ | ⟨e,x,rfl⟩ | ⟨e,x,rfl⟩ | ⟨e,x,rfl⟩ | ⟨e,x,rfl⟩ | ⟨e,x,rfl⟩ | ⟨e,x,rfl⟩ | ⟨e,x,rfl⟩ | ⟨e,x,rfl⟩ | ⟨e,x,rfl⟩ | ⟨e,x,rfl⟩
 all_goals first
  | exact absurd e hc
  | (intro w
     show ((do pure (.bool (← Op.equal 20 _ _)) : Sem Value).run Tryz.prog w) = _
     simp [Sem.run_bind,eq_5,TH,TG,eq_21,TE,eq_2,eq_29,eq_9,TC,OZ,abd])
end Go.Proofs.YtkdebhgccpfkiaaGreatDoor.au
