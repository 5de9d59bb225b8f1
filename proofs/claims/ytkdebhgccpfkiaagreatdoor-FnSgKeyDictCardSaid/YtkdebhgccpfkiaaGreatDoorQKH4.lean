import Derived.Test.YtkdebhgccpfkiaaGreatDoorQKH3
import Derived.Test.YtkdebhgccpfkiaaGreatDoorQKH2
import Derived.Test.YtkdebhgccpfkiaaGreatDoorQKE3
set_option maxRecDepth 100000
set_option maxHeartbeats 16000000
namespace Go.Proofs.YtkdebhgccpfkiaaGreatDoor.au
open Go.RowKit Go.Proofs.aa.az Go.Proofs.aa.aM Go.Proofs.aa.aU
attribute [local go_sem] ba bh
set_option linter.unusedVariables false
set_option linter.unusedSimpArgs false
open Go.Proofs.YtkdebhgccpfkiaaGreatDoor.fD Go.Proofs.YtkdebhgccpfkiaaGreatDoor.fO Go.Proofs.YtkdebhgccpfkiaaGreatDoor.gw Go.Proofs.YtkdebhgccpfkiaaGreatDoor.dI Go.Proofs.YtkdebhgccpfkiaaGreatDoor.fg
theorem TI {w w' : World} (h : ah w w') : Below w.heap.size w w' := by
 obtain ⟨n,rfl⟩ := h
 exact ai (Below.refl _ _) n
theorem vs2 (s : ByteArray) (w : World) (hs : s.size ≤ 100000) (hT : Lib.Utf8Tabs 3 4 w) : Calls Tryz.prog 23 #[.string s] w (BQ (∃ k,bm.f k s = some true) w) := by
 obtain ⟨r,hr⟩ := ad5 s hs _ 0 rfl
 obtain ⟨k,hk⟩ := (Ev.congr (f := fun k => bm.f k s) (fun k => rfl) hr).rounds
 exact (bm.calls k s r w hT hk).mono fun e w' ⟨h1,h2⟩ => ⟨r,h1,h2,fun q => ⟨k,by rw [← q]; exact hk⟩⟩
theorem vp2 (s : ByteArray) (w : World) (hs : s.size ≤ 100000) : Calls Tryz.prog 24 #[.string s] w (BQ (∃ k,ax.f k s = some true) w) := by
 obtain ⟨r,hr⟩ := Xo s hs
 obtain ⟨k,hk⟩ := hr.rounds
 exact (ax.calls k s r w hk).mono fun e w' ⟨h1,h2⟩ => ⟨r,h1,TI h2,fun q => ⟨k,by rw [← q]; exact hk⟩⟩
theorem Xr (s : ByteArray) (w : World) (hs : s.size ≤ 1000000000) : Calls Tryz.prog 14 #[.string s] w (BQ (CS (bl s)) w):=
 (P5 s w hs).mono fun e w' ⟨b,h1,h2,h3⟩ => ⟨b,h1,h3,h2⟩
theorem ir2 (a n : Int) (w : World) : Calls Tryz.prog 22 #[.int .u8 a,.int .u64 n] w (BQ True w):=
 (QJ a n w).mono fun e w' ⟨b,h1,h2⟩ => ⟨b,h1,TI h2,fun _ => trivial⟩
theorem TY (a : Int) (w : World) : Calls Tryz.prog 7 #[.int .u8 a] w (BQ (∃ c : UInt8,dy c = true ∧ a = (c.toNat : Int)) w):=
 (Rq a w).mono fun e w' ⟨b,h1,h2,h3⟩ => ⟨b,h1,TI h3,fun q => by obtain ⟨c,q1,q2⟩ := h2 q; exact ⟨c,q2,q1⟩⟩
def TdC (x : aT) (P : Prop) : Prop := ∀ (A : Option Addr) (c : Nat) (w : World),Lib.Utf8Tabs 3 4 w → Kd.C dF w A x.f3.length x.f3 → x.f3.length ≤ c → Calls Tryz.prog 15 #[.agg #[.int .u8 x.f0,.int .u64 x.f1,.string x.f2,.slice A x.f3.length c]] w (BQ P w)
def TiC (x : aT) (P : Prop) : Prop := ∀ (A : Option Addr) (c : Nat) (w : World),Lib.Utf8Tabs 3 4 w → Kd.C dF w A x.f3.length x.f3 → x.f3.length ≤ c → Calls Tryz.prog 6 #[.agg #[.int .u8 x.f0,.int .u64 x.f1,.string x.f2,.slice A x.f3.length c]] w (BQ P w)
theorem AW {w W : World} (hT : Lib.Utf8Tabs 3 4 w) (hb : Below w.heap.size w W) : Lib.Utf8Tabs 3 4 W := zr hT (Fr.iW hb (fun _ => False)) (fun _ h => h.elim)
theorem LH (x : aT) (P : Prop) (hn : (nodes x).length ≤ 1000) (hs : Sh [x]) (hP : TdC x P) : TiC x (x.f0 ≠ 123 ∧ CS (bl (sig x)) ∧ P) := by
 intro A c w hT hC hc
 obtain ⟨m,hm⟩ : ∃ m,x.f3.length = m := ⟨_,rfl⟩
 have hbx := ab (Below.refl w.heap.size w) (.cells #[.int .u8 x.f0,.int .u64 x.f1,.string x.f2,.slice A m c] 25)
 obtain ⟨p0,p1,p2,p3⟩ := js w x m c A _ (Below.refl _ _)
 have hz := vm hs
 have HS := U.mk (fun (W : World) (hb : Below w.heap.size w W) => P' x A c W (Kd.bD hC hb) hc hn hs)
 have HP := U.mk (fun (W : World) (hb : Below w.heap.size w W) => hP A c W (AW hT hb) (Kd.bD hC hb) hc)
 rw [hm] at HS HP ⊢
 have HB := U.mk hbx
 have HV := U.mk (fun W => Xr (sig x) W (by omega))
 clear hT hC hc hm hbx hz hP hn hs
 go_enter Tryz.func6,Tryz.ntmps6
 by_cases cd : x.f0 = 123
 · have k1 : (x.f0 != 123) = false := by simp [cd]
   clear cd
   go_wp2_with fail
   go_ret
   exact ⟨_,rfl,HB.out,fun h => by cases h⟩
 · have k1 : (x.f0 != 123) = true := by simp [cd]
   have H1 := U.mk cd
   clear cd
   go_wp2_with fail
   refine (HS.out _ HB.out).mono ?_
   rintro e1 w2 ⟨rfl,hb⟩
   have HP4 := U.mk (And.intro p0 (And.intro p1 (And.intro p2 p3)))
   have cO := U.mk (aw HB.out hb)
   replace p0 := ag hb p0
   replace p1 := ag hb p1
   replace p2 := ag hb p2
   replace p3 := ag hb p3
   clear hb
   go_wp2_with fail
   refine (HV.out _).mono ?_
   rintro e1 w3 hq
   unfold BQ at hq
   obtain ⟨b,rfl,hb,hv⟩ := hq
   have bU := U.mk (aw cO.out hb)
   have HQ := U.mk hv
   replace p0 := ag hb p0
   replace p1 := ag hb p1
   replace p2 := ag hb p2
   replace p3 := ag hb p3
   clear hb hv
   cases b with
   | false=>
     go_wp2_with fail
     go_ret
     exact ⟨_,rfl,bU.out,fun h => by cases h⟩
   | true=>
     go_wp2_with fail
     refine (HP.out _ bU.out).mono ?_
     rintro e1 w4 hq
     unfold BQ at hq
     obtain ⟨b,rfl,hb,hv⟩ := hq
     have gy := U.mk (aw bU.out hb)
     have HQ4 := U.mk hv
     clear hb hv p0 p1 p2 p3
     go_wp2_with fail
     go_ret
     exact ⟨_,rfl,gy.out,fun h => ⟨H1.out,HQ.out (by first | rfl | trivial),HQ4.out h⟩⟩
theorem P8 : ∀ n (x : aT),(nodes x).length ≤ n → n ≤ 1000 → Sh [x] → TdC x (TD n x) := by
 intro n
 induction n with
 | zero => intro x h; rw [nodes_eq] at h; simp at h
 | succ n ih=>
   intro x hx hn hs A c w hT hC hc
   rw [nodes_eq] at hx
   simp only [List.length_cons] at hx
   obtain ⟨cN,Df,_⟩ := hs.cons
   have Bx := eH x.f3
   have dD : ∀ y ∈ x.f3,(nodes y).length ≤ n ∧ Sh [y] := fun y hy => ⟨jM hy (by omega),(IU hy (Nat.le_refl _) Df).2⟩
   obtain ⟨m,hm⟩ : ∃ m,x.f3.length = m := ⟨_,rfl⟩
   have km : m ≤ 1000 := by omega
   have hbx := ab (Below.refl w.heap.size w) (.cells #[.int .u8 x.f0,.int .u64 x.f1,.string x.f2,.slice A m c] 25)
   have hp := js w x m c A
   have HI := U.mk (And.intro hT (And.intro hC (And.intro hc (And.intro hm (And.intro dD (And.intro ih hn))))))
   have HB := U.mk hbx
   obtain ⟨p0,p1,p2,p3⟩ := hp _ (Below.refl _ _)
   rw [hm] at hc ⊢
   clear hT hC hm dD ih hx Bx hs Df hbx hc
   go_enter Tryz.func15,Tryz.ntmps15
   go_wp2_with fail
   refine (ir2 _ _ _).mono ?_
   rintro e1 w2 hq
   unfold BQ at hq
   obtain ⟨b,rfl,hb,_⟩ := hq
   have HP := U.mk hp
   obtain ⟨p0,p1,p2,p3⟩ := hp _ hb
   have cO := U.mk (aw HB.out hb)
   have HW2 := U.mk hb
   clear hb hp
   cases b with
   | false=>
     go_wp2_with fail
     go_ret
     exact ⟨_,rfl,cO.out,fun h => by cases h⟩
   | true=>
     by_cases h : x.f0 = 115
     · have HK := U.mk h
       clear h
       have Dq : (x.f0 == 97) = false := by rw [HK.out]; rfl
       have ly : (x.f0 != 97) = true := by rw [HK.out]; rfl
       have yU : (x.f0 == 115) = true := by simp [HK.out]
       have n115 : (x.f0 != 115) = false := by simp [HK.out]
       have yV : (x.f0 == 111) = false := by rw [HK.out]; rfl
       have n111 : (x.f0 != 111) = true := by rw [HK.out]; rfl
       have yW : (x.f0 == 103) = false := by rw [HK.out]; rfl
       have n103 : (x.f0 != 103) = true := by rw [HK.out]; rfl
       have Dr : (x.f0 == 40) = false := by rw [HK.out]; rfl
       have xr : (x.f0 != 40) = true := by rw [HK.out]; rfl
       have yS : (x.f0 == 123) = false := by rw [HK.out]; rfl
       have n123 : (x.f0 != 123) = true := by rw [HK.out]; rfl
       have yT : (x.f0 == 118) = false := by rw [HK.out]; rfl
       have n118 : (x.f0 != 118) = true := by rw [HK.out]; rfl
       go_wp2_with fail
       refine (vs2 x.f2 _ (by omega) (AW HI.out.1 cO.out)).mono ?_
       rintro e1 w3 hq
       unfold BQ at hq
       obtain ⟨b,rfl,hb,hv⟩ := hq
       have bU := U.mk (aw cO.out hb)
       have HV := U.mk hv
       replace p0 := ag hb p0
       replace p3 := ag hb p3
       clear hb hv p1 p2
       cases b with
       | false=>
         go_wp2_with fail
         go_ret
         exact ⟨_,rfl,bU.out,fun h => by cases h⟩
       | true=>
         go_wp2_with fail
         go_ret
         exact ⟨_,rfl,bU.out,fun h => .inl ⟨115,by decide,HK.out,fun _ => HV.out (by first | rfl | trivial),fun q => absurd (HK.out.symm.trans q) (by decide),List.eq_nil_of_length_eq_zero (by have h1 := HI.out.2.2.2.1; have h2 := beq_iff_eq.mp h; omega)⟩⟩
     · have Hw := U.mk h
       clear h
       by_cases h : x.f0 = 111
       · have HK := U.mk h
         clear h
         have Dq : (x.f0 == 97) = false := by rw [HK.out]; rfl
         have ly : (x.f0 != 97) = true := by rw [HK.out]; rfl
         have yU : (x.f0 == 115) = false := by rw [HK.out]; rfl
         have n115 : (x.f0 != 115) = true := by rw [HK.out]; rfl
         have yV : (x.f0 == 111) = true := by simp [HK.out]
         have n111 : (x.f0 != 111) = false := by simp [HK.out]
         have yW : (x.f0 == 103) = false := by rw [HK.out]; rfl
         have n103 : (x.f0 != 103) = true := by rw [HK.out]; rfl
         have Dr : (x.f0 == 40) = false := by rw [HK.out]; rfl
         have xr : (x.f0 != 40) = true := by rw [HK.out]; rfl
         have yS : (x.f0 == 123) = false := by rw [HK.out]; rfl
         have n123 : (x.f0 != 123) = true := by rw [HK.out]; rfl
         have yT : (x.f0 == 118) = false := by rw [HK.out]; rfl
         have n118 : (x.f0 != 118) = true := by rw [HK.out]; rfl
         go_wp2_with fail
         refine (vp2 x.f2 _ (by omega)).mono ?_
         rintro e1 w3 hq
         unfold BQ at hq
         obtain ⟨b,rfl,hb,hv⟩ := hq
         have bU := U.mk (aw cO.out hb)
         have HV := U.mk hv
         replace p0 := ag hb p0
         replace p3 := ag hb p3
         clear hb hv p1 p2
         cases b with
         | false=>
           go_wp2_with fail
           go_ret
           exact ⟨_,rfl,bU.out,fun h => by cases h⟩
         | true=>
           go_wp2_with fail
           go_ret
           exact ⟨_,rfl,bU.out,fun h => .inl ⟨111,by decide,HK.out,fun q => absurd (HK.out.symm.trans q) (by decide),fun _ => HV.out (by first | rfl | trivial),List.eq_nil_of_length_eq_zero (by have h1 := HI.out.2.2.2.1; have h2 := beq_iff_eq.mp h; omega)⟩⟩
       · have Hx := U.mk h
         clear h
         by_cases h : x.f0 = 103
         · have HK := U.mk h
           clear h
           have Dq : (x.f0 == 97) = false := by rw [HK.out]; rfl
           have ly : (x.f0 != 97) = true := by rw [HK.out]; rfl
           have yU : (x.f0 == 115) = false := by rw [HK.out]; rfl
           have n115 : (x.f0 != 115) = true := by rw [HK.out]; rfl
           have yV : (x.f0 == 111) = false := by rw [HK.out]; rfl
           have n111 : (x.f0 != 111) = true := by rw [HK.out]; rfl
           have yW : (x.f0 == 103) = true := by simp [HK.out]
           have n103 : (x.f0 != 103) = false := by simp [HK.out]
           have Dr : (x.f0 == 40) = false := by rw [HK.out]; rfl
           have xr : (x.f0 != 40) = true := by rw [HK.out]; rfl
           have yS : (x.f0 == 123) = false := by rw [HK.out]; rfl
           have n123 : (x.f0 != 123) = true := by rw [HK.out]; rfl
           have yT : (x.f0 == 118) = false := by rw [HK.out]; rfl
           have n118 : (x.f0 != 118) = true := by rw [HK.out]; rfl
           go_wp2_with fail
           refine (Xr x.f2 _ (by omega)).mono ?_
           rintro e1 w3 hq
           unfold BQ at hq
           obtain ⟨b,rfl,hb,hv⟩ := hq
           have bU := U.mk (aw cO.out hb)
           have HV := U.mk hv
           replace p0 := ag hb p0
           replace p3 := ag hb p3
           clear hb hv p1 p2
           cases b with
           | false=>
             go_wp2_with fail
             go_ret
             exact ⟨_,rfl,bU.out,fun h => by cases h⟩
           | true=>
             go_wp2_with fail
             go_ret
             exact ⟨_,rfl,bU.out,fun h => .inl ⟨103,by decide,HK.out,fun q => absurd (HK.out.symm.trans q) (by decide),fun q => absurd (HK.out.symm.trans q) (by decide),List.eq_nil_of_length_eq_zero (by have h1 := HI.out.2.2.2.1; have h2 := beq_iff_eq.mp h; omega)⟩⟩
         · have Mz := U.mk h
           clear h
           by_cases h : x.f0 = 97
           · have HK := U.mk h
             clear h
             have Dq : (x.f0 == 97) = true := by simp [HK.out]
             have ly : (x.f0 != 97) = false := by simp [HK.out]
             have yU : (x.f0 == 115) = false := by rw [HK.out]; rfl
             have n115 : (x.f0 != 115) = true := by rw [HK.out]; rfl
             have yV : (x.f0 == 111) = false := by rw [HK.out]; rfl
             have n111 : (x.f0 != 111) = true := by rw [HK.out]; rfl
             have yW : (x.f0 == 103) = false := by rw [HK.out]; rfl
             have n103 : (x.f0 != 103) = true := by rw [HK.out]; rfl
             have Dr : (x.f0 == 40) = false := by rw [HK.out]; rfl
             have xr : (x.f0 != 40) = true := by rw [HK.out]; rfl
             have yS : (x.f0 == 123) = false := by rw [HK.out]; rfl
             have n123 : (x.f0 != 123) = true := by rw [HK.out]; rfl
             have yT : (x.f0 == 118) = false := by rw [HK.out]; rfl
             have n118 : (x.f0 != 118) = true := by rw [HK.out]; rfl
             go_wp2_with fail
             refine (Rd x.f2 _ (by omega)).mono ?_
             rintro e1 w3 ⟨r1,r2,r3,rfl,hf,hd⟩
             have hb := TI hd
             have bU := U.mk (aw cO.out hb)
             have HW3 := U.mk (aw HW2.out hb)
             have HF := U.mk hf
             replace p0 := ag hb p0
             replace p2 := ag hb p2
             replace p3 := ag hb p3
             clear hb hf p1 hd
             obtain ⟨b2,h2⟩ : ∃ b,(r2.toList == ([] : List UInt8)) = b := ⟨_,rfl⟩
             obtain ⟨b3,h3⟩ : ∃ b,(r1.toList == x.f2.toList) = b := ⟨_,rfl⟩
             cases r3 with
             | false=>
               go_wp2_with fail
               go_ret
               exact ⟨_,rfl,bU.out,fun h => by cases h⟩
             | true=>
               cases b2 with
               | false=>
                 go_wp2_with fail
                 go_ret
                 exact ⟨_,rfl,bU.out,fun h => by cases h⟩
               | true=>
                 cases b3 with
                 | false=>
                   go_wp2_with fail
                   go_ret
                   exact ⟨_,rfl,bU.out,fun h => by cases h⟩
                 | true=>
                   have HR2 := U.mk h2
                   go_wp2_with fail
                   clear Dq ly yU n115 yV n111 yW n103 Dr xr yS n123 yT n118
                   clear h2 h3
                   go_loopg [100] m (fun kq aep wr => ∃ i : Nat,aep = .int .i64 (i : Int) ∧ i ≤ m ∧ U (kq = m - i ∧ Below w3.heap.size w3 wr ∧ ∀ y ∈ x.f3.take i,sig y = x.f2 ∧ TD n y))
                   case atStart => exact ⟨0,rfl,by omega,⟨rfl,Below.refl _ _,fun y hy => by simp at hy⟩⟩
                   case round=>
                    obtain ⟨i,rfl,hi,HJ⟩ := hrel
                    have Fa := U.mk HJ.out.1
                    by_cases hlt : i < m
                    · have hd : decide ((i : Int) < (m : Int)) = true := by simpa using hlt
                      have iI : IntKind.i64.wrap ((i : Int) + 1) = ((i + 1 : Nat) : Int) := by rw [IntKind.wrap_i64]; omega
                      obtain ⟨hT,hC,Ey,hm,dD,ih,gD⟩ := HI.out
                      have eK := bU.out.trans (aC HJ.out.2.1 bU.out.size)
                      obtain ⟨y,hy⟩ : ∃ y,x.f3[i]? = some y := ⟨_,List.getElem?_eq_getElem (by omega)⟩
                      obtain ⟨ad,A3,c3,rfl,a0,a1,a2,a3,fX,bN⟩ := iB hC eK hm i y hy
                      have im := List.mem_of_getElem? hy
                      obtain ⟨ln,eV⟩ : ∃ l,y.f3.length = l := ⟨_,rfl⟩
                      have HS := U.mk (fun (W : World) (hb : Below wr.heap.size wr W) => P' y A3 c3 W (Kd.bD bN hb) fX (by have := (dD y im).1; omega) (dD y im).2)
                      have HT := U.mk (fun (W : World) (hb : Below wr.heap.size wr W) => ih y (dD y im).1 (by omega) (dD y im).2 A3 c3 W (AW hT (eK.trans (aC hb eK.size))) (Kd.bD bN hb) fX)
                      rw [eV] at a3 HS HT
                      have HY := U.mk (And.intro hy (And.intro im hm))
                      have bZ := ab (Below.refl wr.heap.size wr) (.cells #[.int .u8 y.f0,.int .u64 y.f1,.string y.f2,.slice A3 ln c3] 25)
                      obtain ⟨q0,q1,q2,q3⟩ := js wr y ln c3 A3 _ (Below.refl _ _)
                      have s2 := ag bZ (ag HJ.out.2.1 (ag HW3.out (HP.out _ (Below.refl _ _)).2.2.1))
                      have fI := U.mk bZ
                      obtain ⟨bs,hbs⟩ : ∃ b,(!((sig y).toList == x.f2.toList)) = b := ⟨_,rfl⟩
                      have HBS := U.mk hbs
                      clear hT hC Ey hm dD ih gD eK bN hy im fX bZ eV
                      go_wp2_with fail
                      obtain ⟨W5,hW5⟩ : ∃ W5,wr.alloc (.cells #[.int .u8 y.f0,.int .u64 y.f1,.string y.f2,.slice A3 ln c3] 25) = W5 := ⟨_,rfl⟩
                      rw [hW5] at q0 q1 q2 q3 s2 fI ⊢
                      have FF := U.mk (And.intro q0 (And.intro q1 (And.intro q2 (And.intro q3 s2))))
                      clear hW5 a0 a1 a2 a3
                      cases bs with
                      | true=>
                        have hb1 : ((sig y).toList == x.f2.toList) = false := by simpa using hbs
                        have hb2 : ((sig y).toList != x.f2.toList) = true := by simp [bne,hb1]
                        have fY : ¬ (sig y).toList = x.f2.toList := by simpa using hb1
                        have fd := FF.out
                        obtain ⟨d0,d1,d2,d3,d4⟩ : (W5.drew.cell? ⟨wr.heap.size,0,none⟩ = some (.int .u8 y.f0) ∧ W5.drew.cell? ⟨wr.heap.size,1,none⟩ = some (.int .u64 y.f1) ∧ W5.drew.cell? ⟨wr.heap.size,2,none⟩ = some (.string y.f2) ∧ W5.drew.cell? ⟨wr.heap.size,3,none⟩ = some (.slice A3 ln c3) ∧ W5.drew.cell? ⟨w.heap.size,2,none⟩ = some (.string x.f2)) := fd
                        go_region_with (first
                         | (go_at_call 9; with_reducible refine (HS.out _ (ak fI.out)).mono ?_; rintro e8 w8 ⟨rfl,jP⟩; have ir := Co jP; clear jP; obtain ⟨NS,NR,NQ,NO,IW⟩ := FF.out; have k8 := U.mk (And.intro (ag ir NS) (And.intro (ag ir NR) (And.intro (ag ir NQ) (And.intro (ag ir NO) (ag ir IW))))); obtain ⟨t0,t1,t2,t3,t4⟩ := k8.out; have PM := U.mk (fI.out.trans (aC ir fI.out.size)); clear ir))
                        all_goals
                         clear q0 q1 q2 q3 s2
                         go_wp2_with fail
                         go_ret
                         exact ⟨_,rfl,bU.out.trans (aC (HJ.out.2.1.trans (aC PM.out HJ.out.2.1.size)) bU.out.size),fun h => by cases h⟩
                      | false=>
                        have hb1 : ((sig y).toList == x.f2.toList) = true := by simpa using hbs
                        have hb2 : ((sig y).toList != x.f2.toList) = false := by simp [bne,hb1]
                        have fd := FF.out
                        obtain ⟨d0,d1,d2,d3,d4⟩ : (W5.drew.cell? ⟨wr.heap.size,0,none⟩ = some (.int .u8 y.f0) ∧ W5.drew.cell? ⟨wr.heap.size,1,none⟩ = some (.int .u64 y.f1) ∧ W5.drew.cell? ⟨wr.heap.size,2,none⟩ = some (.string y.f2) ∧ W5.drew.cell? ⟨wr.heap.size,3,none⟩ = some (.slice A3 ln c3) ∧ W5.drew.cell? ⟨w.heap.size,2,none⟩ = some (.string x.f2)) := fd
                        go_region_with (first
                         | (go_at_call 9; with_reducible refine (HS.out _ (ak fI.out)).mono ?_; rintro e8 w8 ⟨rfl,jP⟩; have ir := Co jP; clear jP; obtain ⟨NS,NR,NQ,NO,IW⟩ := FF.out; have k8 := U.mk (And.intro (ag ir NS) (And.intro (ag ir NR) (And.intro (ag ir NQ) (And.intro (ag ir NO) (ag ir IW))))); obtain ⟨t0,t1,t2,t3,t4⟩ := k8.out; have PM := U.mk (fI.out.trans (aC ir fI.out.size)); clear ir)
                         | (go_at_call 15; with_reducible refine (HT.out _ PM.out).mono ?_; rintro e9 w9 xy; unfold BQ at xy; obtain ⟨b9,rfl,dK,Bt⟩ := xy; obtain ⟨NS,NR,NQ,NO,IW⟩ := k8.out; have k9 := U.mk (And.intro (ag dK NS) (And.intro (ag dK NR) (And.intro (ag dK NQ) (And.intro (ag dK NO) (ag dK IW))))); have Fc := U.mk (PM.out.trans (aC dK PM.out.size)); have PG := U.mk Bt; clear dK Bt))
                        all_goals
                         clear q0 q1 q2 q3 s2
                         have BT := U.mk (HJ.out.2.1.trans (aC Fc.out HJ.out.2.1.size))
                         cases b9 with
                         | false=>
                           go_wp2_with fail
                           go_ret
                           exact ⟨_,rfl,bU.out.trans (aC BT.out bU.out.size),fun h => by cases h⟩
                         | true=>
                           clear hbs hb1 hb2
                           go_wp2_with fail
                           go_roundg (m - (i + 1))
                           case measure => have := Fa.out; omega
                           case rel=>
                            refine ⟨i + 1,by first | rfl | simp,hlt,⟨rfl,BT.out,fun z hz => ?_⟩⟩
                            obtain ⟨hy,im,hm⟩ := HY.out
                            rw [List.take_add_one,hy,Option.toList_some] at hz
                            rcases List.mem_append.mp hz with hz | hz
                            · exact HJ.out.2.2 z hz
                            · rw [List.mem_singleton] at hz
                              subst hz
                              have vx : (sig z).toList = x.f2.toList := by have := HBS.out; simpa using this
                              exact ⟨gQ (by rw [ch,ch] at vx; exact vx),PG.out (by first | rfl | trivial)⟩
                    · have hd : decide ((i : Int) < (m : Int)) = false := by simpa using hlt
                      go_wp2_with fail
                      go_ret
                      exact ⟨_,rfl,bU.out.trans (aC HJ.out.2.1 bU.out.size),fun _ => .inr (.inr (.inr ⟨HK.out,HF.out (by first | rfl | trivial) (by have h1 := beq_iff_eq.mp HR2.out; rw [ch] at h1; rw [← bF,h1]; rfl),fun y hy => HJ.out.2.2 y (by rw [List.take_of_length_le (by have := HI.out.2.2.2.1; omega)]; exact hy)⟩))⟩
           · have SC := U.mk h
             clear h
             obtain ⟨bz,il⟩ : ∃ b,(x.f2.toList == ([] : List UInt8)) = b := ⟨_,rfl⟩
             cases bz with
             | false=>
               have ly : (x.f0 != 97) = true := bne_iff_ne.mpr SC.out
               have n115 : (x.f0 != 115) = true := bne_iff_ne.mpr Hw.out
               have n111 : (x.f0 != 111) = true := bne_iff_ne.mpr Hx.out
               have n103 : (x.f0 != 103) = true := bne_iff_ne.mpr Mz.out
               go_wp2_with fail
               go_ret
               exact ⟨_,rfl,cO.out,fun h => by cases h⟩
             | true=>
               by_cases h : x.f0 = 40
               · have HK := U.mk h
                 clear h
                 have Dq : (x.f0 == 97) = false := by rw [HK.out]; rfl
                 have ly : (x.f0 != 97) = true := by rw [HK.out]; rfl
                 have yU : (x.f0 == 115) = false := by rw [HK.out]; rfl
                 have n115 : (x.f0 != 115) = true := by rw [HK.out]; rfl
                 have yV : (x.f0 == 111) = false := by rw [HK.out]; rfl
                 have n111 : (x.f0 != 111) = true := by rw [HK.out]; rfl
                 have yW : (x.f0 == 103) = false := by rw [HK.out]; rfl
                 have n103 : (x.f0 != 103) = true := by rw [HK.out]; rfl
                 have Dr : (x.f0 == 40) = true := by simp [HK.out]
                 have xr : (x.f0 != 40) = false := by simp [HK.out]
                 have yS : (x.f0 == 123) = false := by rw [HK.out]; rfl
                 have n123 : (x.f0 != 123) = true := by rw [HK.out]; rfl
                 have yT : (x.f0 == 118) = false := by rw [HK.out]; rfl
                 have n118 : (x.f0 != 118) = true := by rw [HK.out]; rfl
                 by_cases gh : m = 0
                 · subst gh
                   have z1 : (((0 : Nat) : Int) == 0) = true := rfl
                   go_wp2_with fail
                   go_ret
                   exact ⟨_,rfl,cO.out,fun h => by cases h⟩
                 · have z1 : ((m : Int) == 0) = false := by simp; omega
                   go_wp2_with fail
                   clear Dq ly yU n115 yV n111 yW n103 Dr xr yS n123 yT n118
                   clear z1
                   go_loopg [145] m (fun kq v145 wr => ∃ i : Nat,v145 = .int .i64 (i : Int) ∧ i ≤ m ∧ U (kq = m - i ∧ Below w2.heap.size w2 wr ∧ ∀ y ∈ x.f3.take i,y.f0 ≠ 123 ∧ TD n y))
                   case atStart => exact ⟨0,rfl,by omega,⟨rfl,Below.refl _ _,fun y hy => by simp at hy⟩⟩
                   case round=>
                    obtain ⟨i,rfl,hi,HJ⟩ := hrel
                    have Fa := U.mk HJ.out.1
                    by_cases hlt : i < m
                    · have hd : decide ((i : Int) < (m : Int)) = true := decide_eq_true (by omega)
                      have iI : IntKind.i64.wrap ((i : Int) + 1) = ((i + 1 : Nat) : Int) := by rw [IntKind.wrap_i64]; omega
                      obtain ⟨hT,hC,Ey,hm,dD,ih,gD⟩ := HI.out
                      have eK := cO.out.trans (aC HJ.out.2.1 cO.out.size)
                      obtain ⟨y,hy⟩ : ∃ y,x.f3[i]? = some y := ⟨_,List.getElem?_eq_getElem (by omega)⟩
                      obtain ⟨ad', A3,c3,had,a0,a1,a2,a3,fX,bN⟩ := iB hC eK hm i y hy
                      first | subst had | (obtain rfl := Option.some.inj had)
                      have im := List.mem_of_getElem? hy
                      obtain ⟨ln,eV⟩ : ∃ l,y.f3.length = l := ⟨_,rfl⟩
                      have HT := U.mk (fun (W : World) (hb : Below wr.heap.size wr W) => ih y (dD y im).1 (by omega) (dD y im).2 A3 c3 W (AW hT (eK.trans (aC hb eK.size))) (Kd.bD bN hb) fX)
                      rw [eV] at a3 HT
                      have HY := U.mk (And.intro hy (And.intro im hm))
                      have bZ := ab (Below.refl wr.heap.size wr) (.cells #[.int .u8 y.f0,.int .u64 y.f1,.string y.f2,.slice A3 ln c3] 25)
                      obtain ⟨q0,q1,q2,q3⟩ := js wr y ln c3 A3 _ (Below.refl _ _)
                      have fI := U.mk bZ
                      have Fb := U.mk HJ.out.2.1
                      clear hT hC Ey hm dD ih gD eK bN hy im fX bZ eV
                      by_cases cd : y.f0 = 123
                      · have g1 : (y.f0 == 123) = true := by simp [cd]
                        clear cd
                        go_wp2_with fail
                        go_ret
                        exact ⟨_,rfl,cO.out.trans (aC (Fb.out.trans (aC fI.out Fb.out.size)) cO.out.size),fun h => by cases h⟩
                      · have g1 : (y.f0 == 123) = false := beq_eq_false_iff_ne.mpr cd
                        have SM := U.mk cd
                        clear cd
                        go_wp2_with fail
                        refine (HT.out _ fI.out).mono ?_
                        rintro e9 w9 xy
                        unfold BQ at xy
                        obtain ⟨b9,rfl,dK,Bt⟩ := xy
                        have BT := U.mk (Fb.out.trans (aC (fI.out.trans (aC dK fI.out.size)) Fb.out.size))
                        have PG := U.mk Bt
                        clear dK Bt q0 q1 q2 q3 a0 a1 a2 a3
                        cases b9 with
                        | false=>
                          go_wp2_with fail
                          go_ret
                          exact ⟨_,rfl,cO.out.trans (aC BT.out cO.out.size),fun h => by cases h⟩
                        | true=>
                          clear g1
                          go_wp2_with fail
                          go_roundg (m - (i + 1))
                          case measure => have := Fa.out; omega
                          case rel=>
                           refine ⟨i + 1,by first | rfl | simp,hlt,⟨rfl,BT.out,fun z hz => ?_⟩⟩
                           obtain ⟨hy,im,hm⟩ := HY.out
                           rw [List.take_add_one,hy,Option.toList_some] at hz
                           rcases List.mem_append.mp hz with hz | hz
                           · exact HJ.out.2.2 z hz
                           · rw [List.mem_singleton] at hz
                             subst hz
                             exact ⟨SM.out,PG.out (by first | rfl | trivial)⟩
                    · have hd : decide ((i : Int) < (m : Int)) = false := decide_eq_false (by omega)
                      go_wp2_with fail
                      go_ret
                      exact ⟨_,rfl,cO.out.trans (aC HJ.out.2.1 cO.out.size),fun _ => .inr (.inr (.inl ⟨.inl HK.out,fun q => by have := HI.out.2.2.2.1; rw [q] at this; simp at this <;> omega,fun y hy => HJ.out.2.2 y (by rw [List.take_of_length_le (by have := HI.out.2.2.2.1; omega)]; exact hy)⟩))⟩
               · have ab6 := U.mk h
                 clear h
                 by_cases h : x.f0 = 123
                 · have HK := U.mk h
                   clear h
                   have Dq : (x.f0 == 97) = false := by rw [HK.out]; rfl
                   have ly : (x.f0 != 97) = true := by rw [HK.out]; rfl
                   have yU : (x.f0 == 115) = false := by rw [HK.out]; rfl
                   have n115 : (x.f0 != 115) = true := by rw [HK.out]; rfl
                   have yV : (x.f0 == 111) = false := by rw [HK.out]; rfl
                   have n111 : (x.f0 != 111) = true := by rw [HK.out]; rfl
                   have yW : (x.f0 == 103) = false := by rw [HK.out]; rfl
                   have n103 : (x.f0 != 103) = true := by rw [HK.out]; rfl
                   have Dr : (x.f0 == 40) = false := by rw [HK.out]; rfl
                   have xr : (x.f0 != 40) = true := by rw [HK.out]; rfl
                   have yS : (x.f0 == 123) = true := by simp [HK.out]
                   have n123 : (x.f0 != 123) = false := by simp [HK.out]
                   have yT : (x.f0 == 118) = false := by rw [HK.out]; rfl
                   have n118 : (x.f0 != 118) = true := by rw [HK.out]; rfl
                   by_cases gh : m = 0
                   · subst gh
                     have z1 : (((0 : Nat) : Int) == 0) = true := rfl
                     go_wp2_with fail
                     go_ret
                     exact ⟨_,rfl,cO.out,fun h => by cases h⟩
                   · have z1 : ((m : Int) == 0) = false := by simp; omega
                     by_cases gU : m = 2
                     · subst gU
                       have z2 : (((2 : Nat) : Int) != 2) = false := rfl
                       obtain ⟨k0,v0,Gu⟩ := aeI x.f3 HI.out.2.2.2.1
                       obtain ⟨ad,A3,c3,rfl,a0,_,_,_,_,_⟩ := iB HI.out.2.1 cO.out HI.out.2.2.2.1 0 k0 (by rw [Gu]; rfl)
                       have hz := Au ad
                       simp only [Nat.zero_mul,hz] at a0
                       obtain ⟨p0,p1,p2,p3⟩ := HP.out _ HW2.out
                       go_wp2_with fail
                       refine (TY _ _).mono ?_
                       rintro e1 w3 hq
                       unfold BQ at hq
                       obtain ⟨b,rfl,hb,hv⟩ := hq
                       have bU := U.mk (aw cO.out hb)
                       have HV := U.mk hv
                       have HKV := U.mk Gu
                       replace p0 := ag hb p0
                       replace p3 := ag hb p3
                       clear hb hv Gu p1 p2 a0
                       cases b with
                       | false=>
                         go_wp2_with fail
                         go_ret
                         exact ⟨_,rfl,bU.out,fun h => by cases h⟩
                       | true=>
                         go_wp2_with fail
                         clear Dq ly yU n115 yV n111 yW n103 Dr xr yS n123 yT n118
                         clear z1 z2
                         go_loopg [145] 2 (fun kq v145 wr => ∃ i : Nat,v145 = .int .i64 (i : Int) ∧ i ≤ 2 ∧ U (kq = 2 - i ∧ Below w3.heap.size w3 wr ∧ ∀ y ∈ x.f3.take i,y.f0 ≠ 123 ∧ TD n y))
                         case atStart => exact ⟨0,rfl,by omega,⟨rfl,Below.refl _ _,fun y hy => by simp at hy⟩⟩
                         case round=>
                          obtain ⟨i,rfl,hi,HJ⟩ := hrel
                          have Fa := U.mk HJ.out.1
                          by_cases hlt : i < 2
                          · have hd : decide ((i : Int) < 2) = true := decide_eq_true (by omega)
                            have iI : IntKind.i64.wrap ((i : Int) + 1) = ((i + 1 : Nat) : Int) := by rw [IntKind.wrap_i64]; omega
                            obtain ⟨hT,hC,Ey,hm,dD,ih,gD⟩ := HI.out
                            have eK := bU.out.trans (aC HJ.out.2.1 bU.out.size)
                            obtain ⟨y,hy⟩ : ∃ y,x.f3[i]? = some y := ⟨_,List.getElem?_eq_getElem (by omega)⟩
                            obtain ⟨ad', A3,c3,had,a0,a1,a2,a3,fX,bN⟩ := iB hC eK hm i y hy
                            first | subst had | (obtain rfl := Option.some.inj had)
                            have im := List.mem_of_getElem? hy
                            obtain ⟨ln,eV⟩ : ∃ l,y.f3.length = l := ⟨_,rfl⟩
                            have HT := U.mk (fun (W : World) (hb : Below wr.heap.size wr W) => ih y (dD y im).1 (by omega) (dD y im).2 A3 c3 W (AW hT (eK.trans (aC hb eK.size))) (Kd.bD bN hb) fX)
                            rw [eV] at a3 HT
                            have HY := U.mk (And.intro hy (And.intro im hm))
                            have bZ := ab (Below.refl wr.heap.size wr) (.cells #[.int .u8 y.f0,.int .u64 y.f1,.string y.f2,.slice A3 ln c3] 25)
                            obtain ⟨q0,q1,q2,q3⟩ := js wr y ln c3 A3 _ (Below.refl _ _)
                            have fI := U.mk bZ
                            have Fb := U.mk HJ.out.2.1
                            clear hT hC Ey hm dD ih gD eK bN hy im fX bZ eV
                            by_cases cd : y.f0 = 123
                            · have g1 : (y.f0 == 123) = true := by simp [cd]
                              clear cd
                              go_wp2_with fail
                              go_ret
                              exact ⟨_,rfl,bU.out.trans (aC (Fb.out.trans (aC fI.out Fb.out.size)) bU.out.size),fun h => by cases h⟩
                            · have g1 : (y.f0 == 123) = false := beq_eq_false_iff_ne.mpr cd
                              have SM := U.mk cd
                              clear cd
                              go_wp2_with fail
                              refine (HT.out _ fI.out).mono ?_
                              rintro e9 w9 xy
                              unfold BQ at xy
                              obtain ⟨b9,rfl,dK,Bt⟩ := xy
                              have BT := U.mk (Fb.out.trans (aC (fI.out.trans (aC dK fI.out.size)) Fb.out.size))
                              have PG := U.mk Bt
                              clear dK Bt q0 q1 q2 q3 a0 a1 a2 a3
                              cases b9 with
                              | false=>
                                go_wp2_with fail
                                go_ret
                                exact ⟨_,rfl,bU.out.trans (aC BT.out bU.out.size),fun h => by cases h⟩
                              | true=>
                                clear g1
                                go_wp2_with fail
                                go_roundg (2 - (i + 1))
                                case measure => have := Fa.out; omega
                                case rel=>
                                 refine ⟨i + 1,by first | rfl | simp,hlt,⟨rfl,BT.out,fun z hz => ?_⟩⟩
                                 obtain ⟨hy,im,hm⟩ := HY.out
                                 rw [List.take_add_one,hy,Option.toList_some] at hz
                                 rcases List.mem_append.mp hz with hz | hz
                                 · exact HJ.out.2.2 z hz
                                 · rw [List.mem_singleton] at hz
                                   subst hz
                                   exact ⟨SM.out,PG.out (by first | rfl | trivial)⟩
                          · have hd : decide ((i : Int) < 2) = false := decide_eq_false (by omega)
                            go_wp2_with fail
                            go_ret
                            exact ⟨_,rfl,bU.out.trans (aC HJ.out.2.1 bU.out.size),fun _ => .inr (.inr (.inl ⟨.inr ⟨HK.out,k0,v0,HKV.out,HV.out (by first | rfl | trivial)⟩,fun q => by have := HI.out.2.2.2.1; rw [q] at this; simp at this <;> omega,fun y hy => HJ.out.2.2 y (by rw [List.take_of_length_le (by have := HI.out.2.2.2.1; omega)]; exact hy)⟩))⟩
                     · have z2 : ((m : Int) != 2) = true := by simp; omega
                       go_wp2_with fail
                       go_ret
                       exact ⟨_,rfl,cO.out,fun h => by cases h⟩
                 · have Uj := U.mk h
                   clear h
                   by_cases h : x.f0 = 118
                   · have HK := U.mk h
                     clear h
                     have Dq : (x.f0 == 97) = false := by rw [HK.out]; rfl
                     have ly : (x.f0 != 97) = true := by rw [HK.out]; rfl
                     have yU : (x.f0 == 115) = false := by rw [HK.out]; rfl
                     have n115 : (x.f0 != 115) = true := by rw [HK.out]; rfl
                     have yV : (x.f0 == 111) = false := by rw [HK.out]; rfl
                     have n111 : (x.f0 != 111) = true := by rw [HK.out]; rfl
                     have yW : (x.f0 == 103) = false := by rw [HK.out]; rfl
                     have n103 : (x.f0 != 103) = true := by rw [HK.out]; rfl
                     have Dr : (x.f0 == 40) = false := by rw [HK.out]; rfl
                     have xr : (x.f0 != 40) = true := by rw [HK.out]; rfl
                     have yS : (x.f0 == 123) = false := by rw [HK.out]; rfl
                     have n123 : (x.f0 != 123) = true := by rw [HK.out]; rfl
                     have yT : (x.f0 == 118) = true := by simp [HK.out]
                     have n118 : (x.f0 != 118) = false := by simp [HK.out]
                     by_cases L5 : m = 1
                     · subst L5
                       have z1 : (((1 : Nat) : Int) == 1) = true := rfl
                       obtain ⟨hT,hC,Ey,hm,dD,ih,gD⟩ := HI.out
                       obtain ⟨y,hy⟩ : ∃ y,x.f3 = [y] := List.length_eq_one_iff.mp hm
                       have im : y ∈ x.f3 := by rw [hy]; simp
                       obtain ⟨ad,A3,c3,rfl,a0,a1,a2,a3,fX,bN⟩ := iB hC cO.out hm 0 y (by rw [hy]; rfl)
                       have hz := Au ad
                       simp only [Nat.zero_mul,hz] at a0 a1 a2 a3
                       obtain ⟨p0,p1,p2,p3⟩ := HP.out _ HW2.out
                       have PF := U.mk (LH y (TD n y) (by have := (dD y im).1; omega) (dD y im).2 (ih y (dD y im).1 (by omega) (dD y im).2) A3 c3 w2 (AW hT cO.out) bN fX)
                       have HY := U.mk hy
                       obtain ⟨ln,eV⟩ : ∃ l,y.f3.length = l := ⟨_,rfl⟩
                       rw [eV] at a3 PF
                       clear hT hC Ey hm dD ih gD hy im fX bN eV
                       go_wp2_with fail
                       refine PF.out.mono ?_
                       rintro e1 w3 hq
                       unfold BQ at hq
                       obtain ⟨b,rfl,hb,hv⟩ := hq
                       have bU := U.mk (aw cO.out hb)
                       have HV := U.mk hv
                       clear hb hv a0 a1 a2 a3 p0 p1 p2 p3
                       go_wp2_with fail
                       go_ret
                       exact ⟨_,rfl,bU.out,fun h => .inr (.inl ⟨HK.out,y,HY.out,HV.out h⟩)⟩
                     · have z1 : ((m : Int) == 1) = false := beq_eq_false_iff_ne.mpr (by omega)
                       go_wp2_with fail
                       go_ret
                       exact ⟨_,rfl,cO.out,fun h => by cases h⟩
                   · have Uk := U.mk h
                     clear h
                     have Dq : (x.f0 == 97) = false := beq_eq_false_iff_ne.mpr SC.out
                     have ly : (x.f0 != 97) = true := bne_iff_ne.mpr SC.out
                     have yU : (x.f0 == 115) = false := beq_eq_false_iff_ne.mpr Hw.out
                     have n115 : (x.f0 != 115) = true := bne_iff_ne.mpr Hw.out
                     have yV : (x.f0 == 111) = false := beq_eq_false_iff_ne.mpr Hx.out
                     have n111 : (x.f0 != 111) = true := bne_iff_ne.mpr Hx.out
                     have yW : (x.f0 == 103) = false := beq_eq_false_iff_ne.mpr Mz.out
                     have n103 : (x.f0 != 103) = true := bne_iff_ne.mpr Mz.out
                     have Dr : (x.f0 == 40) = false := beq_eq_false_iff_ne.mpr ab6.out
                     have xr : (x.f0 != 40) = true := bne_iff_ne.mpr ab6.out
                     have yS : (x.f0 == 123) = false := beq_eq_false_iff_ne.mpr Uj.out
                     have n123 : (x.f0 != 123) = true := bne_iff_ne.mpr Uj.out
                     have yT : (x.f0 == 118) = false := beq_eq_false_iff_ne.mpr Uk.out
                     have n118 : (x.f0 != 118) = true := bne_iff_ne.mpr Uk.out
                     go_wp2_with fail
                     refine (TY _ _).mono ?_
                     rintro e1 w3 hq
                     unfold BQ at hq
                     obtain ⟨b,rfl,hb,hv⟩ := hq
                     have bU := U.mk (aw cO.out hb)
                     have HV := U.mk hv
                     replace p0 := ag hb p0
                     replace p3 := ag hb p3
                     clear hb hv p1 p2
                     cases b with
                     | false=>
                       go_wp2_with fail
                       go_ret
                       exact ⟨_,rfl,bU.out,fun h => by cases h⟩
                     | true=>
                       go_wp2_with fail
                       go_ret
                       exact ⟨_,rfl,bU.out,fun h => .inl (by obtain ⟨c,q1,q2⟩ := HV.out (by first | rfl | trivial); exact ⟨c,q1,q2,fun q => absurd q Hw.out,fun q => absurd q Hx.out,List.eq_nil_of_length_eq_zero (by have h1 := HI.out.2.2.2.1; have h2 := beq_iff_eq.mp h; omega)⟩)⟩
theorem Ye {n : Nat} {x : aT} (h : TD (n + 1) x) (h0 : x.f0 = 97) (he : ∃ y ∈ x.f3,y.f0 = 123) : ∀ y ∈ x.f3,y.f3 ≠ [] := by
 rcases h with ⟨c,hc,h1,_⟩ | ⟨h1,_⟩ | ⟨h1 | ⟨h1,_⟩,_⟩ | ⟨_,_,hk⟩
 · intro y _ ; exfalso
   have : c = 97 := by have := h1.symm.trans h0; exact UInt8.toNat_inj.mp (by simpa using (by omega : c.toNat = 97))
   rw [this] at hc; exact absurd hc (by decide)
 · omega
 · omega
 · omega
 · obtain ⟨u,hu,u0⟩ := he
   intro y hy
   have e1 : bl (sig y) = 123 :: ((u.f3.map fun z => bl (sig z)).flatten ++ [125]) := by rw [(hk y hy).1,← (hk u hu).1,Fu u0]
   cases n with
   | zero => exact (hk y hy).2.elim
   | succ n=>
     rcases (hk y hy).2 with ⟨c,hc,q0,_⟩ | ⟨q0,_⟩ | ⟨_,q1,_⟩ | ⟨q0,_⟩
     · have ho : cj c = true := by simp [cj,hc]
       rw [eN ho q0] at e1
       obtain ⟨_,_,_,_,h5,_⟩ := eQ c ho
       exact absurd (List.cons.inj e1).1 h5
     · rw [eN (c := 118) (by decide) q0] at e1
       exact absurd (List.cons.inj e1).1 (by decide)
     · exact q1
     · rw [lM q0] at e1
       exact absurd (List.cons.inj e1).1 (by decide)
theorem Hl : ∀ {n : Nat} {x : aT},TD n x → DK n x
 | 0,_,h => h.elim
 | n + 1,x,h => ⟨fun h0 he => Ye h h0 he,fun y hy => by
   rcases h with ⟨c,hc,h1,_,_,h3⟩ | ⟨_,z,h3,_,_,hz⟩ | ⟨_,_,hk⟩ | ⟨_,_,hk⟩
   · rw [h3] at hy; cases hy
   · rw [h3,List.mem_singleton] at hy; subst hy; exact Hl hz
   · exact Hl (hk y hy).2
   · exact Hl (hk y hy).2⟩
theorem He {w : World} {A : Option Addr} {x : aT} (hC : Kd.C dF w A 1 [x]) : ∃ ad A3 c3,A = some ad ∧ w.cell? ad = some (.int .u8 x.f0) ∧ w.cell? ⟨ad.block,ad.off + 1,none⟩ = some (.int .u64 x.f1) ∧ w.cell? ⟨ad.block,ad.off + 2,none⟩ = some (.string x.f2) ∧ w.cell? ⟨ad.block,ad.off + 3,none⟩ = some (.slice A3 x.f3.length c3) ∧ x.f3.length ≤ c3 ∧ Kd.C dF w A3 x.f3.length x.f3 := by
 obtain ⟨ad,A3,c3,rfl,a0,a1,a2,a3,hl,bN⟩ := iB (L := [x]) hC (Below.refl _ _) rfl 0 x rfl
 simp only [Nat.zero_mul,Au] at a0 a1 a2 a3
 exact ⟨ad,A3,c3,rfl,a0,a1,a2,a3,hl,bN⟩
theorem aes (x : aT) (hn : (nodes x).length ≤ 1000) (hs : Sh [x]) (A : Option Addr) (c : Nat) (w : World) (hC : Kd.C dF w A 1 [x]) : Calls Tryz.prog 44 #[.slice A 1 c] w fun e w' => e = .returned (.string (sig x)) ∧ Below w.heap.size w w' := by
 obtain ⟨ad,A3,c3,rfl,a0,a1,a2,a3,hl,bN⟩ := He hC
 have h0 := Au ad
 have hz := vm hs
 obtain ⟨ln,eV⟩ : ∃ l,x.f3.length = l := ⟨_,rfl⟩
 have bZ := ab (Below.refl w.heap.size w) (.cells #[.int .u8 x.f0,.int .u64 x.f1,.string x.f2,.slice A3 ln c3] 25)
 have HS := U.mk (P' x A3 c3 (w.alloc (.cells #[.int .u8 x.f0,.int .u64 x.f1,.string x.f2,.slice A3 ln c3] 25)) (Kd.bD bN bZ) hl hn hs)
 rw [eV] at a3 HS
 have fI := U.mk bZ
 have yQ : (⟨#[]⟩ : ByteArray) ++ sig x = sig x := gQ (by rw [dg]; simp [bl])
 have gL : (9223372036854775807 < (sig x).size) = False := eq_false (by omega)
 obtain ⟨q0,q1,q2,q3⟩ := js w x ln c3 A3 _ (Below.refl _ _)
 clear hC bN hl hn hs eV hz bZ
 go_enter Tryz.func44,Tryz.ntmps44
 go_wp2_with fail
 refine wp_loop_rounds 2 ?_
 rw [rounds_succ]
 generalize hR : Code.rounds _ _ _ 1 = R1
 go_wp2_with fail
 refine HS.out.mono ?_
 rintro e1 w2 ⟨rfl,hb⟩
 have HB := U.mk (fI.out.trans (aC hb fI.out.size))
 clear hb q0 q1 q2 q3 a0 a1 a2 a3
 go_wp2_with fail
 subst hR
 rw [rounds_succ]
 generalize hR : Code.rounds _ _ _ 0 = R1
 go_wp2_with fail
 go_ret
 exact ⟨rfl,HB.out⟩
theorem aer (n : Nat) (x : aT) (hn : (nodes x).length ≤ n) (gD : n ≤ 1000) (hs : Sh [x]) (A : Option Addr) (c : Nat) (w : World) (hT : Lib.Utf8Tabs 3 4 w) (hC : Kd.C dF w A 1 [x]) : Calls Tryz.prog 27 #[.slice A 1 c] w (BQ (x.f0 ≠ 123 ∧ CS (bl (sig x)) ∧ TD n x) w) := by
 have HC := U.mk hC
 obtain ⟨ad,A3,c3,rfl,a0,a1,a2,a3,hl,bN⟩ := He hC
 have h0 := Au ad
 have hz := vm hs
 obtain ⟨ln,eV⟩ : ∃ l,x.f3.length = l := ⟨_,rfl⟩
 have bZ := ab (Below.refl w.heap.size w) (.cells #[.int .u8 x.f0,.int .u64 x.f1,.string x.f2,.slice A3 ln c3] 25)
 have PF := U.mk (LH x (TD n x) (by omega) hs (P8 n x hn gD hs) A3 c3 (w.alloc (.cells #[.int .u8 x.f0,.int .u64 x.f1,.string x.f2,.slice A3 ln c3] 25)) (AW hT bZ) (Kd.bD bN bZ) hl)
 have HS := U.mk (fun (W : World) (hb : Below w.heap.size w W) => aes x (by omega) hs (some ad) c W (Kd.bD hC hb))
 have HV := U.mk (fun W => Xr (sig x) W (by omega))
 rw [eV] at a3 PF
 have fI := U.mk bZ
 obtain ⟨q0,q1,q2,q3⟩ := js w x ln c3 A3 _ (Below.refl _ _)
 clear hC bN hl hn gD hs eV hz bZ hT
 go_enter Tryz.func27,Tryz.ntmps27
 go_wp2_with fail
 refine wp_loop_rounds 2 ?_
 rw [rounds_succ]
 generalize hR : Code.rounds _ _ _ 1 = R1
 go_wp2_with fail
 refine PF.out.mono ?_
 rintro e1 w2 hq
 unfold BQ at hq
 obtain ⟨b,rfl,hb,hv⟩ := hq
 have HB := U.mk (fI.out.trans (aC hb fI.out.size))
 have HQ := U.mk hv
 clear hb hv q0 q1 q2 q3 a0 a1 a2 a3
 cases b with
 | false=>
   go_wp2_with fail
   go_ret
   exact ⟨_,rfl,HB.out,fun h => by cases h⟩
 | true=>
   go_wp2_with fail
   subst hR
   rw [rounds_succ]
   generalize hR : Code.rounds _ _ _ 0 = R1
   go_wp2_with fail
   refine (HS.out _ HB.out).mono ?_
   rintro e1 w3 ⟨rfl,hb⟩
   have bU := U.mk (aw HB.out hb)
   clear hb
   go_wp2_with fail
   refine (HV.out _).mono ?_
   rintro e1 w4 hq
   unfold BQ at hq
   obtain ⟨b,rfl,hb,hv⟩ := hq
   have gy := U.mk (aw bU.out hb)
   clear hb hv
   go_wp2_with fail
   go_ret
   exact ⟨_,rfl,gy.out,fun _ => HQ.out (by first | rfl | trivial)⟩
theorem ad4 (n : Nat) (x : aT) (hD : TD n x) (hn : (nodes x).length ≤ 900) (A : Option Addr) (c : Nat) (w : World) (hC : Kd.C dF w A 1 [x]) : Calls Tryz.prog 11 #[.slice A 1 c] w (BQ True w) := by
 have HD : U (Calls Tryz.prog 17 #[.agg #[.int .u8 0,.int .u64 0,.string ⟨#[]⟩,.slice A 1 c]] w (BQ True w)) := ⟨O5 (n + 1) ⟨0,0,⟨#[]⟩,[x]⟩ ⟨fun h => absurd (show (0:Int) = 97 from h) (by decide),fun y hy => by rw [List.mem_singleton] at hy; subst hy; exact Hl hD⟩ (by rw [nodes_eq]; simp only [List.length_cons]; show (aJ [x]).length + 1 ≤ 1000; rw [aJ,aJ,List.append_nil]; omega) A c w hC⟩
 clear hD hC
 go_enter Tryz.func11,Tryz.ntmps11
 go_wp2_with fail
 refine HD.out.mono ?_
 rintro e1 w2 hq
 unfold BQ at hq
 obtain ⟨b,rfl,hb,_⟩ := hq
 have HB := U.mk hb
 clear hb
 go_wp2_with fail
 go_ret
 exact ⟨_,rfl,HB.out,fun _ => trivial⟩
def KB (a : Int) : Prop := a ≠ 98 ∧ a ≠ 103 ∧ a ≠ 100
theorem kd2 (a : Int) (w : World) : Calls Tryz.prog 58 #[.int .u8 a] w (BQ (KB a) w) := by
 go_enter Tryz.func58,Tryz.ntmps58
 go_wp2_with fail
 refine (TY a _).mono ?_
 rintro e1 w1 hq
 unfold BQ at hq
 obtain ⟨b,rfl,hb,_⟩ := hq
 have HB := U.mk hb
 clear hb
 cases b with
 | false=>
   go_wp2_with fail
   go_ret
   exact ⟨_,rfl,HB.out,fun h => by cases h⟩
 | true=>
   obtain ⟨b1,h1⟩ : ∃ b,(a != 98) = b := ⟨_,rfl⟩
   obtain ⟨b2,h2⟩ : ∃ b,(a != 103) = b := ⟨_,rfl⟩
   obtain ⟨b3,h3⟩ : ∃ b,(a != 100) = b := ⟨_,rfl⟩
   cases b1
   · go_wp2_with fail
     go_ret
     exact ⟨_,rfl,HB.out,fun h => by cases h⟩
   · cases b2
     · go_wp2_with fail
       go_ret
       exact ⟨_,rfl,HB.out,fun h => by cases h⟩
     · cases b3
       · go_wp2_with fail
         go_ret
         exact ⟨_,rfl,HB.out,fun h => by cases h⟩
       · go_wp2_with fail
         go_ret
         exact ⟨_,rfl,HB.out,fun h => ⟨bne_iff_ne.mp h1,bne_iff_ne.mp h2,bne_iff_ne.mp h3⟩⟩
theorem kf2 (s : ByteArray) (hs : s.size ≤ 65536) (w : World) : Calls Tryz.prog 45 #[.string s] w (BQ (∀ j : Nat,j + 1 < s.size → bt s (j : Int) = 123 → KB (bt s ((j + 1 : Nat) : Int))) w) := by
 go_enter Tryz.func45,Tryz.ntmps45
 go_wp2_with fail
 go_loopg [3] s.size (fun kq v3 wr => ∃ i : Nat,v3 = .int .i64 (i : Int) ∧ i ≤ s.size ∧ U (kq = s.size - i ∧ Below w.heap.size w wr ∧ ∀ j : Nat,j < i → j + 1 < s.size → bt s (j : Int) = 123 → KB (bt s ((j + 1 : Nat) : Int))))
 case atStart => exact ⟨0,rfl,by omega,⟨rfl,Below.refl _ _,fun j hj => by omega⟩⟩
 case round=>
  obtain ⟨i,rfl,hi,HI⟩ := hrel
  have iI : IntKind.i64.wrap ((i : Int) + 1) = (i : Int) + 1 := by rw [IntKind.wrap_i64]; omega
  by_cases hlt : i + 1 < s.size
  · have hd : decide ((i : Int) + 1 < (s.size : Int)) = true := decide_eq_true (by omega)
    have p5 : (0 ≤ (i : Int)) = True := eq_true (by omega)
    have q5 : ((i : Int) < (s.size : Int)) = True := eq_true (by omega)
    have Y9 : ∀ h : i < s.size,((s[i]'h).toNat : Int) = bt s (i : Int) := fun h => bq s (i : Int) h
    by_cases h1 : bt s (i : Int) = 123
    · have k1 : (bt s (i : Int) == 123) = true := beq_iff_eq.mpr h1
      have p9 : (0 ≤ (i : Int) + 1) = True := eq_true (by omega)
      have q9 : ((i : Int) + 1 < (s.size : Int)) = True := eq_true (by omega)
      have hx9 : ∀ h : i + 1 < s.size,((s[i + 1]'h).toNat : Int) = bt s ((i + 1 : Nat) : Int) := fun h => bq s ((i + 1 : Nat) : Int) h
      clear h1
      go_wp2_with fail
      refine (kd2 _ _).mono ?_
      rintro e1 w1 hq
      unfold BQ at hq
      obtain ⟨b,rfl,hb,hv⟩ := hq
      have HB := U.mk (HI.out.2.1.trans (aC hb HI.out.2.1.size))
      have HV := U.mk hv
      clear hb hv
      cases b with
      | false=>
        go_wp2_with fail
        go_ret
        exact ⟨_,rfl,HB.out,fun h => by cases h⟩
      | true=>
        go_wp2_with fail
        go_roundg (s.size - (i + 1))
        case measure => have := HI.out.1; omega
        case rel => exact ⟨i + 1,by first | rfl | simp,by omega,⟨rfl,HB.out,fun j h1 h2 h3 => by
         by_cases hj : j = i
         · subst hj; exact HV.out (by first | rfl | trivial)
         · exact HI.out.2.2 j (by omega) h2 h3⟩⟩
    · have k1 : (bt s (i : Int) == 123) = false := beq_eq_false_iff_ne.mpr h1
      have k2 : (bt s (i : Int) != 123) = true := bne_iff_ne.mpr h1
      have H1 := U.mk h1
      go_wp2_with fail
      go_roundg (s.size - (i + 1))
      case measure => have := HI.out.1; omega
      case rel => exact ⟨i + 1,by first | rfl | simp,by omega,⟨rfl,HI.out.2.1,fun j h1 h2 h3 => by
       by_cases hj : j = i
       · subst hj; exact absurd h3 H1.out
       · exact HI.out.2.2 j (by omega) h2 h3⟩⟩
  · have hd : decide ((i : Int) + 1 < (s.size : Int)) = false := decide_eq_false (by omega)
    go_wp2_with fail
    go_ret
    exact ⟨_,rfl,HI.out.2.1,fun _ j h1 => HI.out.2.2 j (by omega) h1⟩
theorem OR : ∀ n (x : aT),(nodes x).length ≤ n → n ≤ 1000 → Sh [x] → ∀ (A : Option Addr) (c : Nat) (w : World),Kd.C dF w A x.f3.length x.f3 →
 Calls Tryz.prog 28 #[.agg #[.int .u8 x.f0,.int .u64 x.f1,.string x.f2,.slice A x.f3.length c]] w (BQ (KQ n x) w) := by
 intro n
 induction n with
 | zero => intro x h; rw [nodes_eq] at h; simp at h
 | succ n ih=>
   intro x h hn hs A c w hC
   obtain ⟨vx,jz,_⟩ := hs.cons
   rw [nodes_eq] at h
   simp only [List.length_cons] at h
   have cf : ∀ z ∈ x.f3,(nodes z).length ≤ n ∧ Sh [z] := fun z hz => ⟨jM hz (by omega),(IU hz (Nat.le_refl _) jz).2⟩
   have Bx := eH x.f3
   obtain ⟨m,hm⟩ : ∃ m,x.f3.length = m := ⟨_,rfl⟩
   have km : m ≤ 1000 := by omega
   have HC := U.mk (And.intro hC (And.intro hm (And.intro cf (And.intro ih hn))))
   rw [hm]
   obtain ⟨p0,_,p2,p3⟩ := js w x m c A _ (Below.refl _ _)
   have HB := U.mk (ab (Below.refl w.heap.size w) (.cells #[.int .u8 x.f0,.int .u64 x.f1,.string x.f2,.slice A m c] 25))
   have HP := U.mk p3
   clear hC hm cf ih h Bx hs jz
   obtain ⟨bx,hbx⟩ : ∃ b,(x.f0 != 97) = b := ⟨_,rfl⟩
   go_enter Tryz.func28,Tryz.ntmps28
   cases bx with
   | false=>
     go_wp2_with fail
     refine (kf2 x.f2 vx _).mono ?_
     rintro e1 w1 hq
     unfold BQ at hq
     obtain ⟨b,rfl,hb,hv⟩ := hq
     have vL := U.mk (HB.out.trans (aC hb HB.out.size))
     have HV := U.mk (show b = true → x.f0 = 97 → NK (97 :: bl x.f2) ∧ ND (bl x.f2) from fun h _ => acP x.f2 (hv h))
     replace p3 := ag hb p3
     clear hb hv p0 p2
     go_wp2_with fail
     have HP := U.mk p3
     clear p3
     go_loopg [3,4] m (fun kq v3 v4 wr => ∃ (i : Nat) (ok : Bool),v3 = .bool ok ∧ v4 = .int .i64 (i : Int) ∧ i ≤ m ∧ U (kq = m - i ∧ Below w1.heap.size w1 wr ∧ (ok = true → b = true ∧ ∀ y ∈ x.f3.take i,KQ n y)))
     case atStart => exact ⟨0,_,rfl,rfl,by omega,⟨rfl,Below.refl _ _,fun h => ⟨h,fun y hy => by simp at hy⟩⟩⟩
     case round=>
      obtain ⟨i,ok,rfl,rfl,hi,HI⟩ := hrel
      have p3 := ag HI.out.2.1 HP.out
      cases ok with
      | false=>
        go_wp2_with fail
        go_ret
        exact ⟨_,rfl,vL.out.trans (aC HI.out.2.1 vL.out.size),fun h => by cases h⟩
      | true=>
        by_cases hlt : i < m
        · have hd : decide ((i : Int) < (m : Int)) = true := decide_eq_true (by omega)
          have iI : IntKind.i64.wrap ((i : Int) + 1) = ((i + 1 : Nat) : Int) := by rw [IntKind.wrap_i64]; omega
          have i5 : ((i : Int) < (m : Int)) = True := eq_true (by omega)
          have i6 : (i < m) = True := eq_true (by omega)
          obtain ⟨iu,iq,cf,ih,gD⟩ := HC.out
          have eK := vL.out.trans (aC HI.out.2.1 vL.out.size)
          obtain ⟨u,hu⟩ : ∃ u,x.f3[i]? = some u := ⟨_,List.getElem?_eq_getElem (by omega)⟩
          obtain ⟨ad,A3,c3,rfl,a0,a1,a2,a3,fX,bN⟩ := iB iu eK iq i u hu
          have gg := List.mem_of_getElem? hu
          have iQ := U.mk (ih u (cf u gg).1 (by omega) (cf u gg).2 A3 c3 wr bN)
          have HU := U.mk hu
          clear iu iq cf ih eK bN hu gg fX gD
          go_wp2_with fail
          refine iQ.out.mono ?_
          rintro e1 w2 hq
          unfold BQ at hq
          obtain ⟨b,rfl,hb,hv⟩ := hq
          have cO := U.mk (HI.out.2.1.trans (aC hb HI.out.2.1.size))
          have HV2 := U.mk hv
          clear hb hv a0 a1 a2 a3 p3 iQ
          go_wp2_with fail
          go_roundg (m - (i + 1))
          case measure => have := HI.out.1; omega
          case rel => exact ⟨i + 1,b,rfl,by first | rfl | simp,hlt,⟨rfl,cO.out,fun h => ⟨(HI.out.2.2 (by first | rfl | trivial)).1,fun y hy => by
           have hu := HU.out
           rw [List.take_add_one,hu] at hy
           rcases List.mem_append.mp hy with hy | hy
           · exact (HI.out.2.2 (by first | rfl | trivial)).2 y hy
           · simp at hy; subst hy; exact HV2.out h⟩⟩⟩
        · have hd : decide ((i : Int) < (m : Int)) = false := decide_eq_false (by omega)
          have Et : i = m := by omega
          go_wp2_with fail
          go_ret
          exact ⟨_,rfl,vL.out.trans (aC HI.out.2.1 vL.out.size),fun _ => ⟨HV.out (HI.out.2.2 (by first | rfl | trivial)).1,fun y hy => (HI.out.2.2 (by first | rfl | trivial)).2 y (by rw [Et,← HC.out.2.1,List.take_length]; exact hy)⟩⟩
   | true=>
     obtain ⟨b,Tu⟩ : ∃ b : Bool,true = b := ⟨_,rfl⟩
     have vL := HB
     have HV := U.mk (show b = true → x.f0 = 97 → NK (97 :: bl x.f2) ∧ ND (bl x.f2) from fun _ h => absurd h (bne_iff_ne.mp hbx))
     clear p0 p2
     subst Tu
     go_wp2_with fail
     have HP := U.mk p3
     clear p3
     go_loopg [3,4] m (fun kq v3 v4 wr => ∃ (i : Nat) (ok : Bool),v3 = .bool ok ∧ v4 = .int .i64 (i : Int) ∧ i ≤ m ∧ U (kq = m - i ∧ Below (w.alloc (.cells #[.int .u8 x.f0,.int .u64 x.f1,.string x.f2,.slice A m c] 25)).heap.size (w.alloc (.cells #[.int .u8 x.f0,.int .u64 x.f1,.string x.f2,.slice A m c] 25)) wr ∧ (ok = true → true = true ∧ ∀ y ∈ x.f3.take i,KQ n y)))
     case atStart => exact ⟨0,_,rfl,rfl,by omega,⟨rfl,Below.refl _ _,fun h => ⟨h,fun y hy => by simp at hy⟩⟩⟩
     case round=>
      obtain ⟨i,ok,rfl,rfl,hi,HI⟩ := hrel
      have p3 := ag HI.out.2.1 HP.out
      cases ok with
      | false=>
        go_wp2_with fail
        go_ret
        exact ⟨_,rfl,vL.out.trans (aC HI.out.2.1 vL.out.size),fun h => by cases h⟩
      | true=>
        by_cases hlt : i < m
        · have hd : decide ((i : Int) < (m : Int)) = true := decide_eq_true (by omega)
          have iI : IntKind.i64.wrap ((i : Int) + 1) = ((i + 1 : Nat) : Int) := by rw [IntKind.wrap_i64]; omega
          have i5 : ((i : Int) < (m : Int)) = True := eq_true (by omega)
          have i6 : (i < m) = True := eq_true (by omega)
          obtain ⟨iu,iq,cf,ih,gD⟩ := HC.out
          have eK := vL.out.trans (aC HI.out.2.1 vL.out.size)
          obtain ⟨u,hu⟩ : ∃ u,x.f3[i]? = some u := ⟨_,List.getElem?_eq_getElem (by omega)⟩
          obtain ⟨ad,A3,c3,rfl,a0,a1,a2,a3,fX,bN⟩ := iB iu eK iq i u hu
          have gg := List.mem_of_getElem? hu
          have iQ := U.mk (ih u (cf u gg).1 (by omega) (cf u gg).2 A3 c3 wr bN)
          have HU := U.mk hu
          clear iu iq cf ih eK bN hu gg fX gD
          go_wp2_with fail
          refine iQ.out.mono ?_
          rintro e1 w2 hq
          unfold BQ at hq
          obtain ⟨b,rfl,hb,hv⟩ := hq
          have cO := U.mk (HI.out.2.1.trans (aC hb HI.out.2.1.size))
          have HV2 := U.mk hv
          clear hb hv a0 a1 a2 a3 p3 iQ
          go_wp2_with fail
          go_roundg (m - (i + 1))
          case measure => have := HI.out.1; omega
          case rel => exact ⟨i + 1,b,rfl,by first | rfl | simp,hlt,⟨rfl,cO.out,fun h => ⟨(HI.out.2.2 (by first | rfl | trivial)).1,fun y hy => by
           have hu := HU.out
           rw [List.take_add_one,hu] at hy
           rcases List.mem_append.mp hy with hy | hy
           · exact (HI.out.2.2 (by first | rfl | trivial)).2 y hy
           · simp at hy; subst hy; exact HV2.out h⟩⟩⟩
        · have hd : decide ((i : Int) < (m : Int)) = false := decide_eq_false (by omega)
          have Et : i = m := by omega
          go_wp2_with fail
          go_ret
          exact ⟨_,rfl,vL.out.trans (aC HI.out.2.1 vL.out.size),fun _ => ⟨HV.out (HI.out.2.2 (by first | rfl | trivial)).1,fun y hy => (HI.out.2.2 (by first | rfl | trivial)).2 y (by rw [Et,← HC.out.2.1,List.take_length]; exact hy)⟩⟩
theorem aet (L : List aT) (hn : (aJ L).length ≤ 1000) (A : Option Addr) (c : Nat) (w : World) (hC : Kd.C dF w A L.length L) (hc : L.length ≤ c) :
 Calls Tryz.prog 26 #[.slice A L.length c] w fun e w' => ∃ b,e = .returned (.bool b) ∧ Below w.heap.size w w' := by
 have k0 := heap_alloc_new w (.cells #[.int .i64 0] 3)
 have k1 := heap_alloc_new (w.alloc (.cells #[.int .i64 0] 3)) (.cells #[.int .i64 0] 3)
 have l0 := aQ (ab (Below.refl _ _) (.cells #[.int .i64 0] 3)) k0
 have hb := ab (ab (Below.refl w.heap.size w) (.cells #[.int .i64 0] 3)) (.cells #[.int .i64 0] 3)
 simp only [World.size_alloc] at k1
 have c0 : ((w.alloc (.cells #[.int .i64 0] 3)).alloc (.cells #[.int .i64 0] 3)).cell? ⟨w.heap.size,0,none⟩ = some (.int .i64 0) := (cell_of_row _ w.heap.size 0 _ 3 (0,0) l0).trans rfl
 have f0 := frozen_of_row _ w.heap.size 0 _ 3 l0
 have d0 : ((w.alloc (.cells #[.int .i64 0] 3)).alloc (.cells #[.int .i64 0] 3)).cell? ⟨w.heap.size + 1,0,none⟩ = some (.int .i64 0) := (cell_of_row _ (w.heap.size + 1) 0 _ 3 (0,0) k1).trans rfl
 have g0 := frozen_of_row _ (w.heap.size + 1) 0 _ 3 k1
 have HS := U.mk (M' 1000 L hn (Nat.le_refl _) A c w _ 100 w.heap.size (w.heap.size + 1) 0 0 (by omega) (by omega) (by omega) hb l0 k1 hC hc)
 clear k0 k1 l0 hb hC
 go_enter Tryz.func26,Tryz.ntmps26
 go_wp2_with fail
 refine HS.out.mono ?_
 rintro e1 w3 ⟨b,u1,u2,rfl,_,_,fY⟩
 have HB := U.mk fY
 clear fY c0 f0 d0 g0 HS
 go_wp2_with fail
 go_ret
 exact ⟨_,rfl,HB.out⟩
def WT (x : aT) : Prop := x.f0 ≠ 123 ∧ CS (bl (sig x)) ∧ TD 300 x ∧ KQ 300 x
theorem PZ (x : aT) (hn : (nodes x).length ≤ 290) (hs : Sh [x]) (A : Option Addr) (c : Nat) (hc : 1 ≤ c) (w : World) (hT : Lib.Utf8Tabs 3 4 w) (hC : Kd.C dF w A 1 [x]) :
 Calls Tryz.prog 16 #[.slice A 1 c] w (BQ (WT x) w) := by
 have hnL : (aJ [x]).length = (nodes x).length := by rw [aJ,aJ,List.append_nil]
 have HS : U (Calls Tryz.prog 26 #[.slice A 1 c] w fun e w' => ∃ b,e = .returned (.bool b) ∧ Below w.heap.size w w') := ⟨aet [x] (by omega) A c w hC (by simpa using hc)⟩
 have HTA := U.mk (fun (W : World) (hb : Below w.heap.size w W) => aer 300 x (by omega) (by omega) hs A c W (AW hT hb) (Kd.bD hC hb))
 have HKE := U.mk (fun (A3 : Option Addr) (c3 : Nat) (W : World) (bN : Kd.C dF W A3 x.f3.length x.f3) => OR 300 x (by omega) (by omega) hs A3 c3 W bN)
 obtain ⟨ad,A3,c3,rfl,q0,q1,q2,q3,fX,bN⟩ := He hC
 have h0 := Au ad
 obtain ⟨ln,eV⟩ : ∃ ln,x.f3.length = ln := ⟨_,rfl⟩
 have lb := U.mk (And.intro bN (And.intro fX eV))
 rw [eV] at q3
 have E7 := U.mk (And.intro q0 (And.intro q1 (And.intro q2 q3)))
 clear hC hT bN fX eV q0 q1 q2 q3
 go_enter Tryz.func16,Tryz.ntmps16
 go_wp2_with fail
 refine HS.out.mono ?_
 rintro e1 w2 ⟨b,rfl,hb⟩
 have HB := U.mk hb
 clear hb
 cases b with
 | false=>
   go_wp2_with fail
   go_ret
   exact ⟨_,rfl,HB.out,fun h => by cases h⟩
 | true=>
   go_wp2_with fail
   refine (HTA.out _ HB.out).mono ?_
   rintro e1 w3 hq
   unfold BQ at hq
   obtain ⟨bt,rfl,hb,hv⟩ := hq
   have bU := U.mk (aw HB.out hb)
   have HV := U.mk hv
   clear hb hv
   cases bt with
   | false=>
     go_wp2_with fail
     go_ret
     exact ⟨_,rfl,bU.out,fun h => by cases h⟩
   | true=>
     go_wp2_with fail
     have q0 := ag bU.out E7.out.1
     have q1 := ag bU.out E7.out.2.1
     have q2 := ag bU.out E7.out.2.2.1
     have q3 := ag bU.out E7.out.2.2.2
     refine wp_loop_rounds 2 ?_
     rw [rounds_succ]
     generalize hR : Code.rounds _ _ _ 1 = R1
     have fu := HKE.out A3 c3 w3 (Kd.bD lb.out.1 bU.out)
     rw [lb.out.2.2] at fu
     go_wp2_with fail
     refine fu.mono ?_
     rintro e1 w4 hq
     unfold BQ at hq
     obtain ⟨bk,rfl,hb,hv⟩ := hq
     have gy := U.mk (aw bU.out hb)
     have HK := U.mk hv
     clear hb hv q0 q1 q2 q3 fu
     cases bk with
     | false=>
       go_wp2_with fail
       subst hR
       rw [rounds_succ]
       generalize hR : Code.rounds _ _ _ 0 = R1
       go_wp2_with fail
       go_ret
       exact ⟨_,rfl,gy.out,fun h => by cases h⟩
     | true=>
       go_wp2_with fail
       subst hR
       rw [rounds_succ]
       generalize hR : Code.rounds _ _ _ 0 = R1
       go_wp2_with fail
       go_ret
       exact ⟨_,rfl,gy.out,fun _ => ⟨(HV.out (by first | rfl | trivial)).1,(HV.out (by first | rfl | trivial)).2.1,(HV.out (by first | rfl | trivial)).2.2,HK.out (by first | rfl | trivial)⟩⟩
theorem P3 (x : aT) (hn : (nodes x).length ≤ 290) (hs : Sh [x]) (A : Option Addr) (c : Nat) (hc : 1 ≤ c) (w : World) (hT : Lib.Utf8Tabs 3 4 w) (hC : Kd.C dF w A 1 [x]) :
 Calls Tryz.prog 10 #[.slice A 1 c] w (BQ (WT x ∧ DP 31 x) w) := by
 have HS := U.mk (PZ x hn hs A c hc w hT hC)
 have HKE := U.mk (fun (A3 : Option Addr) (c3 : Nat) (W : World) (bN : Kd.C dF W A3 x.f3.length x.f3) => GM 300 x (by omega) (by omega) A3 c3 W bN)
 obtain ⟨ad,A3,c3,rfl,q0,q1,q2,q3,fX,bN⟩ := He hC
 have h0 := Au ad
 obtain ⟨ln,eV⟩ : ∃ ln,x.f3.length = ln := ⟨_,rfl⟩
 have lb := U.mk (And.intro bN (And.intro fX eV))
 rw [eV] at q3
 have E7 := U.mk (And.intro q0 (And.intro q1 (And.intro q2 q3)))
 clear hC hT bN fX eV q0 q1 q2 q3
 go_enter Tryz.func10,Tryz.ntmps10
 go_wp2_with fail
 refine HS.out.mono ?_
 rintro e1 w3 h1
 unfold BQ at h1
 obtain ⟨b,rfl,hb,hw⟩ := h1
 have bU := U.mk hb
 have HW := U.mk hw
 clear hb hw
 cases b with
 | false=>
   go_wp2_with fail
   go_ret
   exact ⟨_,rfl,bU.out,fun h => by cases h⟩
 | true=>
   go_wp2_with fail
   have q0 := ag bU.out E7.out.1
   have q1 := ag bU.out E7.out.2.1
   have q2 := ag bU.out E7.out.2.2.1
   have q3 := ag bU.out E7.out.2.2.2
   refine wp_loop_rounds 2 ?_
   rw [rounds_succ]
   generalize hR : Code.rounds _ _ _ 1 = R1
   have fu := HKE.out A3 c3 w3 (Kd.bD lb.out.1 bU.out)
   rw [lb.out.2.2] at fu
   go_wp2_with fail
   refine fu.mono ?_
   rintro e1 w4 hq
   unfold DQ at hq
   obtain ⟨d,rfl,hb,_,_,vB⟩ := hq
   have gy := U.mk (aw bU.out hb)
   have HQ : U (d ≤ 30 → DP 31 x) := ⟨fun h => vB 31 (by omega)⟩
   clear hb vB q0 q1 q2 q3 fu
   by_cases Z1 : d ≤ 30
   · have hd : decide (d ≤ 30) = true := decide_eq_true Z1
     go_wp2_with fail
     subst hR
     rw [rounds_succ]
     generalize hR : Code.rounds _ _ _ 0 = R1
     go_wp2_with fail
     go_ret
     exact ⟨_,rfl,gy.out,fun _ => ⟨HW.out (by first | rfl | trivial),HQ.out Z1⟩⟩
   · have hd : decide (d ≤ 30) = false := decide_eq_false Z1
     go_wp2_with fail
     subst hR
     rw [rounds_succ]
     generalize hR : Code.rounds _ _ _ 0 = R1
     go_wp2_with fail
     go_ret
     exact ⟨_,rfl,gy.out,fun h => by cases h⟩
end Go.Proofs.YtkdebhgccpfkiaaGreatDoor.au
