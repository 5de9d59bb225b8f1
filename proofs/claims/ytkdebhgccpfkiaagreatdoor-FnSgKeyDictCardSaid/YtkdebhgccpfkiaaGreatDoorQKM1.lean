import Derived.Test.YtkdebhgccpfkiaaGreatDoorQKH2
import Derived.Test.YtkdebhgccpfkiaaGreatDoorQKH3
import Derived.Test.YtkdebhgccpfkiaaGreatDoorQKE7
import Derived.Test.YtkdebhgccpfkiaaGreatDoorQKH4
import Derived.Test.YtkdebhgccpfkiaaGreatDoorQKL1
import Derived.Test.YtkdebhgccpfkiaaGreatDoorQKX1
import Derived.Test.YtkdebhgccpfkiaaGreatDoorQKS3
import Derived.OpenShut
import Derived.Deep.Slices
set_option maxRecDepth 100000
set_option maxHeartbeats 16000000
namespace Go.Proofs.YtkdebhgccpfkiaaGreatDoor.au
open Go.RowKit Go.Proofs.aa.az Go.Proofs.aa.aM Go.Proofs.aa.aU
attribute [local go_sem] ba bh
set_option linter.unusedVariables false
set_option linter.unusedSimpArgs false
open Go.Proofs.YtkdebhgccpfkiaaGreatDoor.fD Go.Proofs.YtkdebhgccpfkiaaGreatDoor.fO Go.Proofs.YtkdebhgccpfkiaaGreatDoor.gw Go.Proofs.YtkdebhgccpfkiaaGreatDoor.dI Go.Proofs.YtkdebhgccpfkiaaGreatDoor.fg
theorem pick (P : aT → List UInt8 → Prop) : ∀ l : List aT,(∀ y ∈ l,∃ t,P y t) → ∃ zs : List (List UInt8 × List UInt8),zs.length = l.length ∧ zs.map Prod.fst = (l.map fun y => bl (sig y)) ∧ (∀ z ∈ zs,∃ y ∈ l,z.1 = bl (sig y) ∧ P y z.2) ∧
 ∀ (j : Nat) y z,l[j]? = some y → zs[j]? = some z → z.1 = bl (sig y) ∧ P y z.2
 | [],_ => ⟨[],rfl,rfl,fun z h => by (cases h),fun j y z h _ => by simp at h⟩
 | x :: r,h => by
   obtain ⟨t,ht⟩ := h x List.mem_cons_self
   obtain ⟨zs,h1,h2,h3,h4⟩ := pick P r (fun y hy => h y (List.mem_cons_of_mem _ hy))
   refine ⟨(bl (sig x),t) :: zs,by simp [h1],by simp [h2],fun z hz => ?_,fun j y z hy hz => ?_⟩
   · rcases List.mem_cons.mp hz with rfl | hz
     · exact ⟨x,List.mem_cons_self,rfl,ht⟩
     · obtain ⟨y,hy,h⟩ := h3 z hz
       exact ⟨y,List.mem_cons_of_mem _ hy,h⟩
   · cases j with
     | zero => simp at hy hz; subst hy; subst hz; exact ⟨rfl,ht⟩
     | succ j => simp at hy hz; exact h4 j y z hy hz
theorem Ps {A B E : Int} : ∀ {zs : List (List UInt8 × List UInt8)},(∀ z ∈ zs,Z A B E z.1 z.2) → ∃ n,∀ z ∈ zs,ZF n A B E z.1 z.2
 | [],_ => ⟨0,fun z h => by cases h⟩
 | x :: r,h => by
   obtain ⟨n,hn⟩ := h x List.mem_cons_self
   obtain ⟨m,hm⟩ := Ps (fun z hz => h z (List.mem_cons_of_mem _ hz))
   refine ⟨n + m,fun z hz => ?_⟩
   rcases List.mem_cons.mp hz with rfl | hz
   · exact hn.le (by omega)
   · exact (hm z hz).le (by omega)
theorem Ix {α : Type} {x : List α} {L : List (List α)} (h : x ∈ L) : x.length ≤ L.flatten.length := by
 obtain ⟨p,q,rfl⟩ := List.append_of_mem h
 simp only [List.flatten_append,List.flatten_cons,List.length_append]; omega
theorem WJ {n : Nat} : ∀ {A B E A' B' E' : Int} {l t : List UInt8},ZF n A B E l t → A ≤ A' → B ≤ B' → E ≤ E' → ZF n A' B' E' l t := by
 induction n with
 | zero => intro A B E A' B' E' l t h; exact h.elim
 | succ n ih=>
   intro A B E A' B' E' l t h hA hB hE
   obtain ⟨h1,h2,h3,h⟩ := h
   refine ⟨by omega,by omega,by omega,?_⟩
   rcases h with h | ⟨x,y,hx,e⟩ | ⟨c,x,y,hc,hx,e⟩ | ⟨zs,hn,hx,e⟩
   · exact .inl h
   · exact .inr (.inl ⟨x,y,ih hx (by omega) (by omega) (by omega),e⟩)
   · exact .inr (.inr (.inl ⟨c,x,y,hc,ih hx (by omega) (by omega) (by omega),e⟩))
   · exact .inr (.inr (.inr ⟨zs,hn,fun z h => ih (hx z h) (by omega) (by omega) (by omega),e⟩))
theorem JU {A B E A' B' E' : Int} {l t : List UInt8} (h : Z A B E l t) (hA : A ≤ A') (hB : B ≤ B') (hE : E ≤ E') : Z A' B' E' l t := by
 obtain ⟨n,h⟩ := h
 exact ⟨n,WJ h hA hB hE⟩
theorem aar {n : Nat} {y : aT} {cs : List UInt8} (h : TD n y) (e : bl (sig y) = 123 :: cs) : ∃ k v,y.f3 = [k,v] ∧ (∃ c : UInt8,dy c = true ∧ k.f0 = (c.toNat : Int)) ∧ bl (sig y) = 123 :: (bl (sig k) ++ bl (sig v) ++ [125]) := by
 cases n with
 | zero => exact h.elim
 | succ n=>
   rcases h with ⟨c,hc,h0,_⟩ | ⟨h0,_⟩ | ⟨h0 | ⟨h0,k,v,h3,hc⟩,_,_⟩ | ⟨h0,_⟩
   · have ho : cj c = true := by simp [cj,hc]
     rw [eN ho h0] at e
     obtain ⟨_,_,_,_,h5,_⟩ := eQ c ho
     exact absurd (List.cons.inj e).1 h5
   · rw [eN (c := 118) (by decide) h0] at e
     exact absurd (List.cons.inj e).1 (by decide)
   · rw [zt h0] at e
     exact absurd (List.cons.inj e).1 (by decide)
   · refine ⟨k,v,h3,hc,?_⟩
     rw [Fu h0,h3]; simp
   · rw [lM h0] at e
     exact absurd (List.cons.inj e).1 (by decide)
theorem D' {z y : aT} {l : List aT} (hy : y ∈ l) (hz : z ∈ nodes y) : z ∈ aJ l := by
 obtain ⟨p,q,rfl⟩ := List.append_of_mem hy
 rw [ee,aJ]; simp [hz]
theorem PQ (s : ByteArray) : s = Bs (bl s) := gQ (by simp [Bs,bl])
theorem Ri {m : Nat} {y : aT} {cs : List UInt8} (h : TD (m + 1) y) (e : bl (sig y) = 123 :: cs) : y.f0 = 123 ∧ ∀ z ∈ y.f3,z.f0 ≠ 123 ∧ TD m z := by
 rcases h with ⟨c,hc,h0,_⟩ | ⟨h0,_⟩ | ⟨h0 | ⟨h0,_⟩,_,hk⟩ | ⟨h0,_⟩
 · have ho : cj c = true := by simp [cj,hc]
   rw [eN ho h0] at e
   obtain ⟨_,_,_,_,h5,_⟩ := eQ c ho
   exact absurd (List.cons.inj e).1 h5
 · rw [eN (c := 118) (by decide) h0] at e
   exact absurd (List.cons.inj e).1 (by decide)
 · rw [zt h0] at e
   exact absurd (List.cons.inj e).1 (by decide)
 · exact ⟨h0,hk⟩
 · rw [lM h0] at e
   exact absurd (List.cons.inj e).1 (by decide)
def W (x : aT) : Nat := ((nodes x).map fun z => z.f2.size + 500).sum
def WL (l : List aT) : Nat := ((aJ l).map fun z => z.f2.size + 500).sum
theorem ab3 (x : aT) : W x = x.f2.size + 500 + WL x.f3 := by unfold W WL; rw [nodes_eq]; simp
theorem Aw : ∀ l : List aT,WL l = (l.map W).sum
 | [] => by unfold WL; rw [aJ]; rfl
 | x :: r => by
   have := Aw r
   unfold WL at this ⊢
   rw [aJ,List.map_append,List.sum_append,this,List.map_cons,List.sum_cons]
   rfl
theorem Kq {a : Nat} : ∀ {l : List Nat},a ∈ l → a ≤ l.sum
 | [],h => by cases h
 | b :: r,h => by
   rw [List.sum_cons]
   rcases List.mem_cons.mp h with rfl | h
   · omega
   · have := Kq h; omega
theorem adC {y : aT} {l : List aT} (h : y ∈ l) : W y ≤ WL l := by
 rw [Aw]; exact Kq (List.mem_map_of_mem h)
structure GD (y : aT) : Prop where
 few : y.f3.length ≤ 1000
 sz : y.f2.size ≤ 65536
 n : 0 ≤ y.f1 ∧ y.f1 < 18446744073709551616
theorem NN {c : UInt8} (h : fJ c = true) : dy c = true := by
 simp only [fJ,Bool.and_eq_true] at h; exact h.1.1
theorem Z_T {A B E : Int} {l t : List UInt8} (z : Z A B E l t) : T A B E l:=
 Z.ind (P := fun A B E l _ => T A B E l) (fun A B E c h1 h2 h3 hc => T.one h1 h2 h3 hc) (fun A B E x y h1 h2 h3 _ ih => T.arr h1 h2 h3 ih) (fun A B E c x y h1 h2 h3 hc _ ih => T.dict h1 h2 h3 (NN hc) ih)
  (fun A B E zs h1 h2 h3 hn _ ih => T.str h1 h2 h3 (by simpa using hn) (fun x hx => by
    obtain ⟨z,hz,rfl⟩ := List.mem_map.mp hx
    exact ih z hz)) z
theorem T6 {A B E : Int} {c : UInt8} {t : List UInt8} (hc : cj c = true) (z : Z A B E [c] t) : t = [c] := by
 obtain ⟨k,z⟩ := z
 cases k with
 | zero => exact z.elim
 | succ k=>
   have hn := (eQ c hc).2
   obtain ⟨_,_,_,h⟩ := z
   rcases h with ⟨d,_,e,rfl⟩ | ⟨x,y,_,e,_⟩ | ⟨d,x,y,_,_,e,_⟩ | ⟨zs,_,_,e,_⟩
   · rw [(List.cons.inj e).1]
   · exact absurd (List.cons.inj e).1 hn.1
   · exact absurd (List.cons.inj e).1 hn.1
   · exact absurd (List.cons.inj e).1 hn.2.1
theorem PV : ∀ (m q : Nat) (x : aT) (A B E : Int),TD m x → KQ q x → x.f0 ≠ 123 → m ≤ 800 → A ≤ 32 → B ≤ 32 → E ≤ 32 → T A B E (bl (sig x)) → (bl (sig x)).length ≤ 255 → ∃ t,Z A B E (bl (sig x)) t
 | 0,_,_,_,_,_,h,_,_,_,_,_,_,_,_ => h.elim
 | m + 1,0,_,_,_,_,_,h,_,_,_,_,_,_,_ => h.elim
 | m + 1,q + 1,x,A,B,E,h,hK,cd,hm,hA,hB,hE,hT,hlen => by
   obtain ⟨p1,p2,p3⟩ := hT.pos
   rcases h with ⟨c,hc,h0,_⟩ | ⟨h0,y,h3,Cf,hv,hy⟩ | ⟨h0,hne,hk⟩ | ⟨h0,ht,hk⟩
   · have ho : cj c = true := by simp [cj,hc]
     rw [eN ho h0]
     exact ⟨[c],1,p1,p2,p3,.inl ⟨c,ho,rfl,rfl⟩⟩
   · rw [eN (c := 118) (by decide) h0]
     exact ⟨[118],1,p1,p2,p3,.inl ⟨118,by decide,rfl,rfl⟩⟩
   · have iv : x.f0 = 40 := by
      rcases h0 with h | ⟨h,_⟩
      · exact h
      · exact absurd h cd
     rw [zt iv] at hT hlen ⊢
     obtain ⟨_,_,_,hc⟩ := hT.cases
     have hF : (x.f3.map fun y => bl (sig y)).flatten.length ≤ 253 := by simp only [List.length_cons,List.length_append,List.length_nil] at hlen; omega
     rcases hc with ⟨c,_,e⟩ | ⟨u,_,e⟩ | ⟨c,u,_,_,e⟩ | ⟨xs,_,hx,e⟩
     · have := congrArg List.length e
       simp only [List.length_cons,List.length_append,List.length_nil] at this; omega
     · exact absurd (List.cons.inj e).1 (by decide)
     · exact absurd (List.cons.inj e).1 (by decide)
     · have e2 := List.append_cancel_right (List.cons.inj e).2
       have e3 : (x.f3.map fun y => bl (sig y)) = xs := CU _ xs (fun u hu => by
        obtain ⟨y,hy,rfl⟩ := List.mem_map.mp hu
        exact (LM m y (hk y hy).2 (hk y hy).1).more (by omega) (by omega) (by omega)) (fun u hu => (hx u hu).more (by omega) (by omega) (by omega)) (by omega) e2
       obtain ⟨zs,z1,z2,z3,z4⟩ := pick (fun y t => Z A (B - 1) E (bl (sig y)) t) x.f3 (fun y hy => PV m q y A (B - 1) E (hk y hy).2 (hK.2 y hy) (hk y hy).1 (by omega) hA (by omega) hE (hx _ (e3 ▸ List.mem_map_of_mem hy)) (by
        have := Ix (List.mem_map_of_mem (f := fun y => bl (sig y)) hy); omega))
       have Gk : ∀ z ∈ zs,Z A (B - 1) E z.1 z.2 := fun z hz => by
        obtain ⟨y,_,e,h⟩ := z3 z hz
        rw [e]; exact h
       obtain ⟨N,hN⟩ := Ps Gk
       have aeK : zs ≠ [] := fun q => hne (List.eq_nil_of_length_eq_zero (by rw [← z1,q]; rfl))
       rw [← z2]
       exact ⟨_,N + 1,p1,p2,p3,.inr (.inr (.inr ⟨zs,aeK,hN,rfl,rfl⟩))⟩
   · have hNK := (hK.1 h0).1
     rw [lM h0] at hT ⊢
     exact Z.of hT hNK
theorem B0 : ∀ (n m q : Nat) (x : aT) (A B E : Int) (t : List UInt8),TD m x → KQ q x → DP n x → x.f0 ≠ 123 → m ≤ 800 → (∀ y ∈ nodes x,GD y) → A ≤ 32 → B ≤ 32 → E ≤ 32 → Z A B E (bl (sig x)) t → (bl (sig x)).length ≤ 255 → W x ≤ 67000000 →
 VE n (gT x) (bl (sig x)) t (W x)
 | 0,_,_,_,_,_,_,_,_,_,h,_,_,_,_,_,_,_,_,_ => h.elim
 | n + 1,0,_,_,_,_,_,_,h,_,_,_,_,_,_,_,_,_,_,_ => h.elim
 | n + 1,m + 1,0,_,_,_,_,_,_,h,_,_,_,_,_,_,_,_,_,_ => h.elim
 | n + 1,m + 1,q + 1,x,A,B,E,t,h,hK,hD,cd,hm,hg,hA,hB,hE,hz,hlen,hW => by
   have hx := hg x (by rw [nodes_eq]; simp)
   have dD : ∀ y ∈ x.f3,∀ z ∈ nodes y,GD z := fun y hy z hz => hg z (by rw [nodes_eq]; exact List.mem_cons_of_mem _ (D' hy hz))
   have hWx := ab3 x
   have hwk : ∀ y ∈ x.f3,W y ≤ 67000000 := fun y hy => by have := adC hy; omega
   have Jn : (gT x).f3.length ≤ 1000 := by rw [jv,List.length_map]; exact hx.few
   have htl := hz.len.1
   have L7 : ∀ (j : Nat) (y : aT),x.f3[j]? = some y → (x.f3.map W).getD j 0 = W y := fun j y hy => by
    rw [List.getD_eq_getElem?_getD,List.getElem?_map,hy]; rfl
   rcases h with ⟨c,hc,h0,hs,hp,hn⟩ | ⟨h0,y,h3,Cf,hv,hy⟩ | ⟨h0,hne,hk⟩ | ⟨h0,ht,hk⟩
   · have ho : cj c = true := by simp [cj,hc]
     rw [eN ho h0] at hz hlen ⊢
     obtain rfl := T6 ho hz
     refine ⟨Jn,by simp,by simp,hW,.inl ⟨c,hc,by rw [AV]; exact h0,rfl,rfl,⟨by rw [Yc]; exact hx.n,by rw [vi]; exact hx.sz,?_,?_⟩,by rw [vi]; omega⟩⟩
     · rintro (rfl | rfl)
       · rw [vi]; exact Pa.Yh x.f2 hx.sz (hs (by rw [h0]; rfl))
       · rw [vi]; exact (Pa.KC x.f2 hx.sz (hp (by rw [h0]; rfl))).1
     · rintro rfl; rw [vi]; exact (Pa.KC x.f2 hx.sz (hp (by rw [h0]; rfl))).2
   · have gU : y ∈ x.f3 := by rw [h3]; simp
     rw [eN (c := 118) (by decide) h0] at hz hlen ⊢
     obtain rfl := T6 (by decide) hz
     have hT := SZ hy Cf (by omega) hv
     obtain ⟨t', hz'⟩ := PV m q y 32 32 32 hy (hK.2 y gU) Cf (by omega) (by omega) (by omega) (by omega) hT hv.1
     have hWl : WL x.f3 = W y := by rw [Aw,h3]; simp
     exact ⟨Jn,by simp,by simp,hW,.inr (.inl ⟨by rw [AV]; exact h0,gT y,_,t', W y,by rw [jv,h3]; rfl,B0 n m q y 32 32 32 t' hy (hK.2 y gU) (hD (.inr (.inr (.inr h0))) y gU) Cf (by omega) (dD y gU) (by omega) (by omega) (by omega) hz' hv.1 (hwk y gU),hz', rfl,rfl,by omega⟩)⟩
   · have iv : x.f0 = 40 := by
      rcases h0 with h | ⟨h,_⟩
      · exact h
      · exact absurd h cd
     rw [zt iv] at hz hlen htl ⊢
     have hF : (x.f3.map fun y => bl (sig y)).flatten.length ≤ 253 := by simp only [List.length_cons,List.length_append,List.length_nil] at hlen; omega
     obtain ⟨k,Ob⟩ := hz
     cases k with
     | zero => exact Ob.elim
     | succ k=>
       obtain ⟨_,_,_,hc⟩ := Ob
       rcases hc with ⟨c,_,e,_⟩ | ⟨u,y,_,e,_⟩ | ⟨c,u,y,_,_,e,_⟩ | ⟨zs,_,Gk,e,et⟩
       · have := congrArg List.length e
         simp only [List.length_cons,List.length_append,List.length_nil] at this; omega
       · exact absurd (List.cons.inj e).1 (by decide)
       · exact absurd (List.cons.inj e).1 (by decide)
       · have e2 := List.append_cancel_right (List.cons.inj e).2
         have e3 : (x.f3.map fun y => bl (sig y)) = zs.map Prod.fst := CU _ _ (fun u hu => by
          obtain ⟨y,hy,rfl⟩ := List.mem_map.mp hu
          exact (LM m y (hk y hy).2 (hk y hy).1).more (by omega) (by omega) (by omega)) (fun u hu => by
          obtain ⟨z,hz,rfl⟩ := List.mem_map.mp hu
          exact (Z_T ⟨k,Gk z hz⟩).more (by omega) (by omega) (by omega)) (by omega) e2
         have hlz : zs.length = x.f3.length := by have := congrArg List.length e3; simpa using this.symm
         refine ⟨Jn,hlen,by omega,hW,.inr (.inr (.inl ⟨by rw [AV]; exact iv,zs,x.f3.map W,by rw [jv,List.length_map]; exact hlz,by rw [jv,List.length_map,List.length_map],fun z hz => JU ⟨k,Gk z hz⟩ (by omega) (by omega) (by omega),fun j y z hy hz => ?_,by rw [← e3],et,by rw [← Aw]; omega⟩))⟩
         rw [jv,List.getElem?_map] at hy
         obtain ⟨y0,Em,rfl⟩ := Option.map_eq_some_iff.mp hy
         have gh := List.mem_of_getElem? Em
         have vu : z.1 = bl (sig y0) := by
          have h1 : (zs.map Prod.fst)[j]? = some z.1 := by rw [List.getElem?_map,hz]; rfl
          rw [← e3,List.getElem?_map,Em] at h1
          exact (Option.some.inj h1).symm
         have gr : Z A (B - 1) E (bl (sig y0)) z.2 := by rw [← vu]; exact ⟨k,Gk z (List.mem_of_getElem? hz)⟩
         rw [vu,L7 j y0 Em]
         exact B0 n m q y0 A (B - 1) E z.2 (hk y0 gh).2 (hK.2 y0 gh) (hD (.inr (.inl iv)) y0 gh) (hk y0 gh).1 (by omega) (dD y0 gh) hA (by omega) hE gr (by
          have := Ix (List.mem_map_of_mem (f := fun y => bl (sig y)) gh); omega) (hwk y0 gh)
   · have hND := (hK.1 h0).2
     rw [lM h0] at hz hlen htl ⊢
     obtain ⟨k,Ob⟩ := hz
     cases k with
     | zero => exact Ob.elim
     | succ k=>
       obtain ⟨_,_,_,hc⟩ := Ob
       rcases hc with ⟨c,hc,e,_⟩ | ⟨u,te,hu,e,rfl⟩ | ⟨c,u,te,Dg,hu,e,rfl⟩ | ⟨zs,_,Gk,e,et⟩
       · rw [← (List.cons.inj e).1] at hc; exact absurd hc (by decide)
       · have e2 := (List.cons.inj e).2
         subst e2
         have hZ : Z (A - 1) B E (bl x.f2) te := ⟨k,hu⟩
         obtain ⟨c0,cs,hb,hc0,_⟩ := (Z_T hZ).head
         refine ⟨Jn,hlen,by omega,hW,.inr (.inr (.inr (.inl ⟨by rw [AV]; exact h0,c0,cs,te,x.f3.map W,by rw [vi,← hb]; exact PQ _,hc0,by rw [← hb]; exact JU hZ (by omega) (by omega) (by omega),by rw [jv,List.length_map,List.length_map],fun j y hy => ?_,by rw [hb],rfl,by rw [← Aw]; omega⟩)))⟩
         rw [jv,List.getElem?_map] at hy
         obtain ⟨y0,Em,rfl⟩ := Option.map_eq_some_iff.mp hy
         have gh := List.mem_of_getElem? Em
         have es : bl (sig y0) = bl x.f2 := by rw [(hk y0 gh).1]
         have Cf : y0.f0 ≠ 123 := fun q => by
          rw [Fu q,hb] at es
          exact hc0 (List.cons.inj es).1.symm
         rw [L7 j y0 Em,← hb,← es]
         simp only [List.length_cons] at hlen
         exact B0 n m q y0 (A - 1) B E te (hk y0 gh).2 (hK.2 y0 gh) (hD (.inl h0) y0 gh) Cf (by omega) (dD y0 gh) (by omega) hB hE (by rw [es]; exact hZ) (by rw [es]; omega) (hwk y0 gh)
       · have e2 : bl x.f2 = 123 :: c :: (u ++ [125]) := (List.cons.inj e).2
         have hZ : Z (A - 1) B (E - 1) u te := ⟨k,hu⟩
         have FW : c ≠ 100 := fun g => hND [] (u ++ [125]) (by rw [e2,g]; rfl)
         have Ot : u.length ≤ 251 := by rw [e2] at hlen; simp only [List.length_cons,List.length_append,List.length_nil] at hlen; omega
         refine ⟨Jn,hlen,by omega,hW,.inr (.inr (.inr (.inr ⟨by rw [AV]; exact h0,c,u,te,x.f3.map W,by rw [vi,← e2]; exact PQ _,Dg,FW,JU hZ (by omega) (by omega) (by omega),by rw [jv,List.length_map,List.length_map],fun j y hy => ?_,by rw [e2],rfl,by rw [← Aw]; omega⟩)))⟩
         rw [jv,List.getElem?_map] at hy
         obtain ⟨y0,Em,rfl⟩ := Option.map_eq_some_iff.mp hy
         have gh := List.mem_of_getElem? Em
         have es0 : bl (sig y0) = bl x.f2 := by rw [(hk y0 gh).1]
         obtain ⟨k0,v0,h3,⟨c', Oz,K5⟩,es⟩ := aar (hk y0 gh).2 (by rw [es0]; exact e2)
         have ho : cj c' = true := by simp [cj,Oz]
         rw [es0,e2,eN ho K5] at es
         have es2 : c :: (u ++ [125]) = c' :: (bl (sig v0) ++ [125]) := (List.cons.inj es).2
         obtain ⟨rfl,es3⟩ := List.cons.inj es2
         have es4 : u = bl (sig v0) := List.append_cancel_right es3
         obtain ⟨m1,km⟩ : ∃ m1,m = m1 + 1 := by
          cases m with
          | zero => exact (hk y0 gh).2.elim
          | succ m => exact ⟨m,rfl⟩
         obtain ⟨q1,Eo⟩ : ∃ q1,q = q1 + 1 := by
          cases q with
          | zero => exact (hK.2 y0 gh).elim
          | succ q => exact ⟨q,rfl⟩
         obtain ⟨n1,iK⟩ : ∃ n1,n = n1 + 1 := by
          cases n with
          | zero => exact (hD (.inl h0) y0 gh).elim
          | succ n => exact ⟨n,rfl⟩
         have kS := (hk y0 gh).2
         have ZT := hK.2 y0 gh
         have hDy := hD (.inl h0) y0 gh
         rw [km] at kS
         rw [Eo] at ZT
         rw [iK] at hDy
         obtain ⟨ad0,Gv⟩ := Ri kS (by rw [es0]; exact e2)
         have mk : k0 ∈ y0.f3 := by rw [h3]; simp
         have mv : v0 ∈ y0.f3 := by rw [h3]; simp
         have hWy : W y0 = y0.f2.size + 500 + (W k0 + W v0) := by rw [ab3,Aw,h3]; simp
         have hWb := hwk y0 gh
         have K9 : ∀ z0 ∈ y0.f3,∀ z ∈ nodes z0,GD z := fun z0 il z hz => dD y0 gh z (by rw [nodes_eq]; exact List.mem_cons_of_mem _ (D' il hz))
         have sk : bl (sig k0) = [c] := eN ho K5
         have hDk : ∀ z0 ∈ y0.f3,DP n z0 := fun z0 il => by rw [iK]; exact DP.succ (hDy (.inr (.inr (.inl ad0))) z0 il)
         refine ⟨gT k0,gT v0,[],W k0,W v0,by rw [jv,h3]; rfl,?_,?_,by rw [L7 j y0 Em]; omega⟩
         · have h1 := B0 n m1 q1 k0 32 32 32 [c] (Gv k0 mk).2 (ZT.2 k0 mk) (hDk k0 mk) (Gv k0 mk).1 (by omega) (K9 k0 mk) (by omega) (by omega) (by omega) (by rw [sk]; exact ⟨1,by omega,by omega,by omega,.inl ⟨c,ho,rfl,rfl⟩⟩) (by rw [sk]; simp) (by omega)
           rw [sk] at h1; exact h1
         · have h1 := B0 n m1 q1 v0 (A - 1) B (E - 1) te (Gv v0 mv).2 (ZT.2 v0 mv) (hDk v0 mv) (Gv v0 mv).1 (by omega) (K9 v0 mv) (by omega) hB (by omega) (by rw [← es4]; exact hZ) (by rw [← es4]; omega) (by omega)
           rw [← es4] at h1; exact h1
       · exact absurd (List.cons.inj e).1 (by decide)
def eX (key value : aT) (s : ByteArray) : aT := ⟨97,0,s,[⟨123,0,⟨#[]⟩,[key,value]⟩]⟩
theorem zU (key value : aT) (s : ByteArray) : nodes (eX key value s) = eX key value s :: ⟨123,0,⟨#[]⟩,[key,value]⟩ :: aJ [key,value] := by
 rw [nodes_eq]
 show _ :: aJ [⟨123,0,⟨#[]⟩,[key,value]⟩] = _
 rw [aJ,aJ,List.append_nil,nodes_eq]
theorem kP (x : aT) : aJ [x] = nodes x := by rw [aJ,aJ,List.append_nil]
theorem MU {α : Type} (f : α → Nat) (B : Nat) : ∀ l : List α,(∀ x ∈ l,f x ≤ B) → (l.map f).sum ≤ l.length * B
 | [],_ => by simp
 | x :: r,h => by
   have h1 := h x List.mem_cons_self
   have h2 := MU f B r (fun y hy => h y (List.mem_cons_of_mem _ hy))
   rw [List.map_cons,List.sum_cons,List.length_cons,Nat.succ_mul]
   omega
theorem EF (key value : aT) (s : ByteArray) (hn : (aJ [key,value]).length ≤ 100) (hs : ∀ x ∈ aJ [key,value],x.f2.size ≤ 65536) (hz : s.size ≤ 65536) :
 (nodes (eX key value s)).length ≤ 290 ∧ Sh [eX key value s] := by
 refine ⟨by rw [zU]; simp only [List.length_cons]; omega,fun y hy => ?_⟩
 rw [kP,zU] at hy
 rcases List.mem_cons.mp hy with rfl | hy
 · exact hz
 · rcases List.mem_cons.mp hy with rfl | hy
   · show (⟨#[]⟩ : ByteArray).size ≤ 65536; decide
   · exact hs y hy
theorem Va (key value : aT) (s : ByteArray) (hn : (aJ [key,value]).length ≤ 100) (hs : ∀ x ∈ aJ [key,value],x.f2.size ≤ 65536) (hz : s.size ≤ 65536) (hN : ∀ x ∈ aJ [key,value],0 ≤ x.f1 ∧ x.f1 < 18446744073709551616) (hw : WT (eX key value s) ∧ DP 31 (eX key value s)) :
 ∃ t K,DV (gT (eX key value s)) t 62 K ∧ K ≤ 67000000 := by
 obtain ⟨hl,hsh⟩ := EF key value s hn hs hz
 obtain ⟨⟨cd,hV,hT,hK⟩,hD⟩ := hw
 have ht := SZ hT cd (by omega) hV
 obtain ⟨t,hZ⟩ := PV 300 300 _ 32 32 32 hT hK cd (by omega) (by omega) (by omega) (by omega) ht hV.1
 have cN : ∀ z ∈ nodes (eX key value s),z.f2.size ≤ 65536 := fun z zE => hsh z (by rw [kP]; exact zE)
 have hW : W (eX key value s) ≤ 67000000 := by
  have h1 := MU (fun z : aT => z.f2.size + 500) 66036 (nodes (eX key value s)) (fun z zE => by have := cN z zE; show z.f2.size + 500 ≤ 66036; omega)
  unfold W
  have h2 : (nodes (eX key value s)).length * 66036 ≤ 290 * 66036 := Nat.mul_le_mul_right _ hl
  omega
 have hv := B0 31 300 300 (eX key value s) 32 32 32 t hT hK hD cd (by omega) (fun y hy => ⟨UK (by omega) y hy,cN y hy,by
  rw [zU] at hy
  rcases List.mem_cons.mp hy with rfl | hy
  · show (0 : Int) ≤ 0 ∧ (0 : Int) < 18446744073709551616; omega
  · rcases List.mem_cons.mp hy with rfl | hy
    · show (0 : Int) ≤ 0 ∧ (0 : Int) < 18446744073709551616; omega
    · exact hN y hy⟩) (by omega) (by omega) (by omega) hZ hV.1 hW
 exact ⟨t,_,O1 31 _ _ _ _ hv,hW⟩
theorem acS (key value : aT) (s : ByteArray) (c : UInt8) (hc : dy c = true) (h0 : key.f0 = (c.toNat : Int)) (r : List UInt8) (hb : bl s = 123 :: c :: r) (hK : KQ 300 (eX key value s)) : fJ c = true := by
 have h1 := (hK.1 rfl).1
 have h2 : NK (97 :: 123 :: c :: r) := by rw [← hb]; exact h1
 have g := h2 [97] r
 have g1 : c ≠ 98 := fun q => g.1 (by rw [q]; rfl)
 have g2 : c ≠ 103 := fun q => g.2 (by rw [q]; rfl)
 simp [fJ,hc,g1,g2]
theorem PO (W : World) (B : Nat) (T : TypeId) (cs : Array Value) (h : W.heap[B]? = some (.cells cs T (0,0))) (xs : List aT) (hl : xs.length ≤ 10) (hr : ∀ (j : Nat) p,xs[j]? = some p → ∃ c,c.length = 4 ∧ dF.K W p c ∧ ∀ (i : Nat) u,c[i]? = some u → cs[j * 4 + i]? = some u) : Kd.C dF W (some ⟨B,0,none⟩) xs.length xs := by
 refine ⟨rfl,by omega,fun _ => ⟨⟨B,0,none⟩,rfl,fun j p hj => ?_⟩⟩
 obtain ⟨c,h1,h2,h3⟩ := hr j p hj
 refine ⟨c,h1,h2,fun i u hu => ?_⟩
 rw [Lib.addr_add]
 show W.cell? ⟨B,0 + (j * 4 + i),none⟩ = some u
 have := cell_of_row W B (0 + (j * 4 + i)) cs T (0,0) h
 rw [this,Nat.zero_add]
 exact h3 i u hu
theorem Hy (W : World) (B : Nat) (T : TypeId) (x : aT) (A : Option Addr) (c : Nat) (h : W.heap[B]? = some (.cells #[.int .u8 x.f0,.int .u64 x.f1,.string x.f2,.slice A x.f3.length c] T (0,0))) (hC : Kd.C dF W A x.f3.length x.f3) (hc : x.f3.length ≤ c) : Kd.C dF W (some ⟨B,0,none⟩) 1 [x]:=
 PO W B T _ h [x] (by simp) fun j p hj => by
  cases j with
  | zero=>
    obtain rfl : x = p := by simpa using hj
    exact ⟨_,rfl,Ed W x hc hC,fun i u hu => by
     rw [Nat.zero_mul,Nat.zero_add]
     rw [← hu]; simp⟩
  | succ j => simp at hj
theorem Uy (W : World) (B : Nat) (T : TypeId) (x y : aT) (A A2 : Option Addr) (c c2 : Nat) (h : W.heap[B]? = some (.cells #[.int .u8 x.f0,.int .u64 x.f1,.string x.f2,.slice A x.f3.length c,.int .u8 y.f0,.int .u64 y.f1,.string y.f2,.slice A2 y.f3.length c2] T (0,0))) (hC : Kd.C dF W A x.f3.length x.f3) (hc : x.f3.length ≤ c) (Dn : Kd.C dF W A2 y.f3.length y.f3) (Dj : y.f3.length ≤ c2) : Kd.C dF W (some ⟨B,0,none⟩) 2 [x,y]:=
 PO W B T _ h [x,y] (by simp) fun j p hj => by
  match j,hj with
  | 0,hj=>
    obtain rfl : x = p := by simpa using hj
    exact ⟨_,rfl,Ed W x hc hC,fun i u hu => by
     have hi : i < 4 := by have := (List.getElem?_eq_some_iff.1 hu).1; simpa using this
     match i,hi,hu with
     | 0,_,hu => simpa using hu
     | 1,_,hu => simpa using hu
     | 2,_,hu => simpa using hu
     | 3,_,hu => simpa using hu⟩
  | 1,hj=>
    obtain rfl : y = p := by simpa using hj
    exact ⟨_,rfl,Ed W y Dj Dn,fun i u hu => by
     have hi : i < 4 := by have := (List.getElem?_eq_some_iff.1 hu).1; simpa using this
     match i,hi,hu with
     | 0,_,hu => simpa using hu
     | 1,_,hu => simpa using hu
     | 2,_,hu => simpa using hu
     | 3,_,hu => simpa using hu⟩
  | j + 2,hj => simp at hj
theorem GI (x : aT) : ∃ b,gJ.f x.f0 x.f1 x.f2 x.f3 = some b := by
 unfold gJ.f
 split
 · exact ⟨_,rfl⟩
 · split <;> exact ⟨_,rfl⟩
theorem aaS (W0 W : World) (g : Nat) (s : ByteArray) (key value : aT) (Ak Av : Option Addr) (ck cv : Nat) (h : J4 W0 W g s [.int .u8 key.f0,.int .u64 key.f1,.string key.f2,.slice Ak key.f3.length ck] [.int .u8 value.f0,.int .u64 value.f1,.string value.f2,.slice Av value.f3.length cv])
 (hk : Kd.C dF W0 Ak key.f3.length key.f3) (Ox : key.f3.length ≤ ck) (hv : Kd.C dF W0 Av value.f3.length value.f3) (Ju : value.f3.length ≤ cv) :
 ∃ g2 T3,W.heap[g]? = some (.cells #[.int .u8 97,.int .u64 0,.string s,.slice (some ⟨g2,0,none⟩) 1 1] T3 (0,0)) ∧ Kd.C dF W (some ⟨g2,0,none⟩) 1 [⟨123,0,⟨#[]⟩,[key,value]⟩] ∧ Below W0.heap.size W0 W := by
 obtain ⟨g1,g2,T1,T2,T3,h3,h2,h1,hb⟩ := h
 exact ⟨g2,T3,h3,Hy W g2 T2 ⟨123,0,⟨#[]⟩,[key,value]⟩ _ 2 h2 (Uy W g1 T1 key value Ak Av ck cv h1 (Kd.bD hk hb) Ox (Kd.bD hv hb) Ju) (Nat.le_refl _),hb⟩
theorem five (w : World) (hT : Lib.Utf8Tabs 3 4 w) : 5 ≤ w.heap.size := by
 have h := (hT.2 0 (by omega)).1
 have := World.block_lt_of_cell? w _ h
 have h4 : 4 < w.heap.size := by simpa using this
 omega
structure T9 (w : World) (key value : aT) (Ak Av : Option Addr) (ck cv : Nat) : Prop where
 k : Kd.C dF w Ak key.f3.length key.f3
 kc : key.f3.length ≤ ck
 v : Kd.C dF w Av value.f3.length value.f3
 vc : value.f3.length ≤ cv
 t : Lib.Utf8Tabs 3 4 w
theorem T9.up {w W : World} {key value : aT} {Ak Av : Option Addr} {ck cv : Nat} (h : T9 w key value Ak Av ck cv) (hb : Below w.heap.size w W) : T9 W key value Ak Av ck cv := ⟨Kd.bD h.k hb,h.kc,Kd.bD h.v hb,h.vc,AW h.t hb⟩
theorem Nd {key value : aT} (hs : ∀ x ∈ aJ [key,value],x.f2.size ≤ 65536) : Sh [key] ∧ Sh [value] := by
 refine ⟨fun y hy => hs y ?_,fun y hy => hs y ?_⟩
 · rw [kP] at hy
   rw [aJ]; simp [hy]
 · rw [kP] at hy
   rw [aJ,aJ]; simp [hy]
theorem S7 {key value : aT} (hn : (aJ [key,value]).length ≤ 100) : (nodes key).length ≤ 100 ∧ (nodes value).length ≤ 100 := by
 rw [aJ,aJ] at hn
 simp only [List.length_append] at hn
 omega
def RQ (w : World) (e : Ending) (w' : World) : Prop := e = .returned (.bool true) ∧ Below w.heap.size w w'
theorem NJ (key value : aT) (big : Bool) (Ak Av : Option Addr) (ck cv : Nat) (w : World) (hI : T9 w key value Ak Av ck cv) (hN : ∀ x ∈ aJ [key,value],0 ≤ x.f1 ∧ x.f1 < 18446744073709551616) :
 Calls Tryz.prog 3 #[.agg #[.int .u8 key.f0,.int .u64 key.f1,.string key.f2,.slice Ak key.f3.length ck],.agg #[.int .u8 value.f0,.int .u64 value.f1,.string value.f2,.slice Av value.f3.length cv],.bool big] w (RQ w) := by
 have k0 := heap_alloc_new w (.cells #[.int .u8 key.f0,.int .u64 key.f1,.string key.f2,.slice Ak key.f3.length ck] 25)
 have k1 := heap_alloc_new (w.alloc (.cells #[.int .u8 key.f0,.int .u64 key.f1,.string key.f2,.slice Ak key.f3.length ck] 25)) (.cells #[.int .u8 value.f0,.int .u64 value.f1,.string value.f2,.slice Av value.f3.length cv] 25)
 have l0 := aQ (ab (Below.refl _ _) (.cells #[.int .u8 value.f0,.int .u64 value.f1,.string value.f2,.slice Av value.f3.length cv] 25)) k0
 have hB := ab (ab (Below.refl w.heap.size w) (.cells #[.int .u8 key.f0,.int .u64 key.f1,.string key.f2,.slice Ak key.f3.length ck] 25)) (.cells #[.int .u8 value.f0,.int .u64 value.f1,.string value.f2,.slice Av value.f3.length cv] 25)
 simp only [World.size_alloc] at k1
 have HI := U.mk (hI.up hB)
 have ix := U.mk hN
 obtain ⟨bk,lE⟩ := GI key
 obtain ⟨bv,OA⟩ := GI value
 have HZK := U.mk lE
 have HZV := U.mk OA
 clear k0 hI hN lE OA
 go_enter Tryz.func3,Tryz.ntmps3
 obtain ⟨W1,Gz⟩ : ∃ W1,(w.alloc (.cells #[.int .u8 key.f0,.int .u64 key.f1,.string key.f2,.slice Ak key.f3.length ck] 25)).alloc (.cells #[.int .u8 value.f0,.int .u64 value.f1,.string value.f2,.slice Av value.f3.length cv] 25) = W1 := ⟨_,rfl⟩
 rw [Gz] at l0 k1 hB HI
 obtain ⟨nk,KT⟩ : ∃ nk,key.f3.length = nk := ⟨_,rfl⟩
 obtain ⟨nv,Zl⟩ : ∃ nv,value.f3.length = nv := ⟨_,rfl⟩
 have p0 : W1.cell? ⟨w.heap.size,0,none⟩ = some (.int .u8 key.f0) := (cell_of_row W1 w.heap.size 0 _ 25 (0,0) l0).trans rfl
 have p1 : W1.cell? ⟨w.heap.size,1,none⟩ = some (.int .u64 key.f1) := (cell_of_row W1 w.heap.size 1 _ 25 (0,0) l0).trans rfl
 have p2 : W1.cell? ⟨w.heap.size,2,none⟩ = some (.string key.f2) := (cell_of_row W1 w.heap.size 2 _ 25 (0,0) l0).trans rfl
 have p3 : W1.cell? ⟨w.heap.size,3,none⟩ = some (.slice Ak key.f3.length ck) := (cell_of_row W1 w.heap.size 3 _ 25 (0,0) l0).trans rfl
 have p4 : W1.cell? ⟨w.heap.size + 1,0,none⟩ = some (.int .u8 value.f0) := (cell_of_row W1 (w.heap.size + 1) 0 _ 25 (0,0) k1).trans rfl
 have p5 : W1.cell? ⟨w.heap.size + 1,1,none⟩ = some (.int .u64 value.f1) := (cell_of_row W1 (w.heap.size + 1) 1 _ 25 (0,0) k1).trans rfl
 have p6 : W1.cell? ⟨w.heap.size + 1,2,none⟩ = some (.string value.f2) := (cell_of_row W1 (w.heap.size + 1) 2 _ 25 (0,0) k1).trans rfl
 have p7 : W1.cell? ⟨w.heap.size + 1,3,none⟩ = some (.slice Av value.f3.length cv) := (cell_of_row W1 (w.heap.size + 1) 3 _ 25 (0,0) k1).trans rfl
 have HS := U.mk (And.intro p0 (And.intro p1 (And.intro p2 (And.intro p3 (And.intro p4 (And.intro p5 (And.intro p6 p7)))))))
 have HB := U.mk hB
 clear l0 k1 hB KT Zl
 go_wp2_with fail
 clear Gz
 refine (gJ.calls _ _ _ _ _ _ bk _ HI.out.k HI.out.kc HZK.out).mono ?_
 rintro e1 w2 ⟨rfl,hb⟩
 have bH : BB W1 w2 := hb
 clear hb
 have B2 := U.mk bH
 clear p0 p1 p2 p3 p4 p5 p6 p7
 obtain ⟨p0,p1,p2,p3,p4,p5,p6,p7⟩ := iE HS.out bH
 clear bH
 cases bk with
 | false=>
   go_wp2_with fail
   go_ret
   exact ⟨rfl,aw HB.out B2.out⟩
 | true=>
   go_wp2_with fail
   refine (gJ.calls _ _ _ _ _ _ bv _ (HI.out.up B2.out).v HI.out.vc HZV.out).mono ?_
   rintro e1 w3 ⟨rfl,hb⟩
   have bH := ez B2.out hb
   clear hb
   have B3 := U.mk bH
   clear p0 p1 p2 p3 p4 p5 p6 p7
   obtain ⟨p0,p1,p2,p3,p4,p5,p6,p7⟩ := iE HS.out bH
   clear bH
   cases bv with
   | false=>
     go_wp2_with fail
     go_ret
     exact ⟨rfl,aw HB.out B3.out⟩
   | true=>
     go_wp2_with fail
     have bZ := ab (Below.refl w3.heap.size w3) (.cells #[.int .u8 key.f0,.int .u64 key.f1,.string key.f2,.slice Ak key.f3.length ck,.int .u8 value.f0,.int .u64 value.f1,.string value.f2,.slice Av value.f3.length cv] 25)
     have OK := (HI.out.up B3.out).up bZ
     have Dn := Uy (w3.alloc (.cells #[.int .u8 key.f0,.int .u64 key.f1,.string key.f2,.slice Ak key.f3.length ck,.int .u8 value.f0,.int .u64 value.f1,.string value.f2,.slice Av value.f3.length cv] 25)) w3.heap.size 25 key value Ak Av ck cv (heap_alloc_new w3 _) OK.k OK.kc OK.v OK.vc
     have GZ : U (Calls Tryz.prog 5 #[.slice (some ⟨w3.heap.size,0,none⟩) 2 2,.int .i64 100] (w3.alloc (.cells #[.int .u8 key.f0,.int .u64 key.f1,.string key.f2,.slice Ak key.f3.length ck,.int .u8 value.f0,.int .u64 value.f1,.string value.f2,.slice Av value.f3.length cv] 25)) fun e w' => ∃ b,e = .returned (.bool b) ∧ Below (w3.alloc (.cells #[.int .u8 key.f0,.int .u64 key.f1,.string key.f2,.slice Ak key.f3.length ck,.int .u8 value.f0,.int .u64 value.f1,.string value.f2,.slice Av value.f3.length cv] 25)).heap.size (w3.alloc (.cells #[.int .u8 key.f0,.int .u64 key.f1,.string key.f2,.slice Ak key.f3.length ck,.int .u8 value.f0,.int .u64 value.f1,.string value.f2,.slice Av value.f3.length cv] 25)) w' ∧ (b = true → (aJ [key,value]).length ≤ 100 ∧ ∀ x ∈ aJ [key,value],x.f2.size ≤ 65536)) := ⟨Rp [key,value] 100 (by omega) (by simp) (some ⟨w3.heap.size,0,none⟩) 2 _ Dn⟩
     clear OK Dn
     refine GZ.out.mono ?_
     rintro e1 w4 ⟨b1,rfl,hb,hf⟩
     have bH := ez B3.out (bZ.trans (aC hb (by simp)))
     have HF := U.mk hf
     clear hb bZ hf GZ
     have B4 := U.mk bH
     clear p0 p1 p2 p3 p4 p5 p6 p7
     obtain ⟨p0,p1,p2,p3,p4,p5,p6,p7⟩ := iE HS.out bH
     clear bH
     cases b1 with
     | false=>
       go_wp2_with fail
       go_ret
       exact ⟨rfl,aw HB.out B4.out⟩
     | true=>
       have KT := (S7 (HF.out (by first | rfl | trivial)).1).1
       have Zl := (S7 (HF.out (by first | rfl | trivial)).1).2
       have Df := (Nd (HF.out (by first | rfl | trivial)).2).1
       have Tj := (Nd (HF.out (by first | rfl | trivial)).2).2
       have Lz := U.mk (LH key (TD 300 key) (by omega) Df (P8 300 key (by omega) (by omega) Df))
       have HT2 := U.mk (LH value (TD 300 value) (by omega) Tj (P8 300 value (by omega) (by omega) Tj))
       have HD := U.mk (GM 300 value (by omega) (by omega))
       have GV := U.mk (And.intro (AX 1000 key (by omega) (Nat.le_refl _) Df) (AX 1000 value (by omega) (Nat.le_refl _) Tj))
       clear KT Zl Df Tj
       go_wp2_with fail
       refine (Lz.out _ _ _ (HI.out.up B4.out).t (HI.out.up B4.out).k HI.out.kc).mono ?_
       rintro e1 w5 hq
       unfold BQ at hq
       obtain ⟨t1,rfl,hb,Eo⟩ := hq
       have bH := ez B4.out hb
       have HQ1 := U.mk Eo
       clear hb Eo
       have B5 := U.mk bH
       clear p0 p1 p2 p3 p4 p5 p6 p7
       obtain ⟨p0,p1,p2,p3,p4,p5,p6,p7⟩ := iE HS.out bH
       clear bH
       cases t1 with
       | false=>
         go_wp2_with fail
         go_ret
         exact ⟨rfl,aw HB.out B5.out⟩
       | true=>
         go_wp2_with fail
         refine (HT2.out _ _ _ (HI.out.up B5.out).t (HI.out.up B5.out).v HI.out.vc).mono ?_
         rintro e1 w6 hq
         unfold BQ at hq
         obtain ⟨t2,rfl,hb,I6⟩ := hq
         have bH := ez B5.out hb
         have HQ2 := U.mk I6
         clear hb I6
         have B6 := U.mk bH
         clear p0 p1 p2 p3 p4 p5 p6 p7
         obtain ⟨p0,p1,p2,p3,p4,p5,p6,p7⟩ := iE HS.out bH
         clear bH
         cases t2 with
         | false=>
           go_wp2_with fail
           go_ret
           exact ⟨rfl,aw HB.out B6.out⟩
         | true=>
           go_wp2_with fail
           refine (TY _ _).mono ?_
           rintro e1 w7 hq
           unfold BQ at hq
           obtain ⟨b3,rfl,hb,Oo⟩ := hq
           have bH := ez B6.out hb
           have fI := U.mk Oo
           clear hb Oo
           have B7 := U.mk bH
           clear p0 p1 p2 p3 p4 p5 p6 p7
           obtain ⟨p0,p1,p2,p3,p4,p5,p6,p7⟩ := iE HS.out bH
           clear bH
           cases b3 with
           | false=>
             go_wp2_with fail
             go_ret
             exact ⟨rfl,aw HB.out B7.out⟩
           | true=>
             go_wp2_with fail
             refine (HD.out _ _ _ (HI.out.up B7.out).v).mono ?_
             rintro e1 w8 hq
             unfold DQ at hq
             obtain ⟨d,rfl,hb,_⟩ := hq
             have bH := ez B7.out hb
             clear hb
             have B8 := U.mk bH
             clear p0 p1 p2 p3 p4 p5 p6 p7
             obtain ⟨p0,p1,p2,p3,p4,p5,p6,p7⟩ := iE HS.out bH
             clear bH
             by_cases Z2 : 28 < d
             · have dd : decide (28 < d) = true := decide_eq_true Z2
               go_wp2_with fail
               go_ret
               exact ⟨rfl,aw HB.out B8.out⟩
             · have dd : decide (28 < d) = false := decide_eq_false Z2
               go_wp2_with fail
               clear dd Z2
               obtain ⟨c,hc,hc0⟩ := fI.out (by first | rfl | trivial)
               have hvk := (HQ1.out (by first | rfl | trivial)).2.1
               have Tg := (HQ2.out (by first | rfl | trivial)).2.1
               have zk : (sig key).size ≤ 255 := by rw [← bF]; exact hvk.1
               have zv : (sig value).size ≤ 255 := by rw [← bF]; exact Tg.1
               have Ku : bl (sig key) = [c] := eN (by simp [cj,hc]) hc0
               obtain ⟨s1,vx⟩ : ∃ s1,(⟨#[123]⟩ : ByteArray) ++ sig key = s1 := ⟨_,rfl⟩
               obtain ⟨s2,jz⟩ : ∃ s2,s1 ++ sig value = s2 := ⟨_,rfl⟩
               obtain ⟨s3,Tl⟩ : ∃ s3,s2 ++ (⟨#[125]⟩ : ByteArray) = s3 := ⟨_,rfl⟩
               have y1 : s1.size = 1 + (sig key).size := by rw [← vx,gH]; rfl
               have y2 : s2.size = s1.size + (sig value).size := by rw [← jz,gH]
               have y3 : s3.size = s2.size + 1 := by rw [← Tl,gH]; rfl
               have Dk : bl s3 = 123 :: c :: (bl (sig value) ++ [125]) := by
                rw [← Tl,← jz,← vx,dg,dg,dg,Ku]; rfl
               have cN : s3.size ≤ 65536 := by omega
               obtain ⟨hdn,Ov⟩ := EF key value s3 (HF.out (by first | rfl | trivial)).1 (HF.out (by first | rfl | trivial)).2 cN
               have LB := U.mk (And.intro cN (And.intro hdn (And.intro Ov (And.intro Dk (And.intro hc (And.intro hc0 Ku))))))
               clear Dk cN hdn Ov hc hc0 Ku hvk Tg
               refine r5 w8 w.heap.size (w.heap.size + 1) key.f0 key.f1 value.f0 value.f1 key.f2 value.f2 Ak Av key.f3.length ck value.f3.length cv (sig key) (sig value) s1 s2 s3 ⟨p0,p1,p2,p3,p4,p5,p6,p7⟩ (fun W' hb => GV.out.1 _ _ W' ((HI.out.up B8.out).up hb).k) (fun W' hb => GV.out.2 _ _ W' ((HI.out.up B8.out).up hb).v) vx jz Tl (eq_false (by omega)) (eq_false (by omega)) (eq_false (by omega)) _ _ ?_
               intro W6 g v44 v45 v46 v47 v48 v49 v50 v51 v52 v53 v54 v55 v56 hDA
               clear vx jz Tl y1 y2 y3 zk zv
               have OJ := HI.out.up B8.out
               obtain ⟨g2,T3,hg,hCg,hb6⟩ := aaS w8 W6 g s3 key value Ak Av ck cv hDA OJ.k OJ.kc OJ.v OJ.vc
               have bH := ez B8.out hb6
               have HG := U.mk (And.intro hg hCg)
               have q0 : W6.cell? ⟨g,0,none⟩ = some (.int .u8 97) := (cell_of_row W6 g 0 _ T3 (0,0) hg).trans rfl
               have q1 : W6.cell? ⟨g,1,none⟩ = some (.int .u64 0) := (cell_of_row W6 g 1 _ T3 (0,0) hg).trans rfl
               have q2 : W6.cell? ⟨g,2,none⟩ = some (.string s3) := (cell_of_row W6 g 2 _ T3 (0,0) hg).trans rfl
               have q3 : W6.cell? ⟨g,3,none⟩ = some (.slice (some ⟨g2,0,none⟩) 1 1) := (cell_of_row W6 g 3 _ T3 (0,0) hg).trans rfl
               clear hDA OJ hg hCg hb6
               have B9 := U.mk bH
               clear p0 p1 p2 p3 p4 p5 p6 p7
               obtain ⟨p0,p1,p2,p3,p4,p5,p6,p7⟩ := iE HS.out bH
               clear bH
               go_wp2_with fail
               have bZ := ab (Below.refl W6.heap.size W6) (.cells #[.int .u8 97,.int .u64 0,.string s3,.slice (some ⟨g2,0,none⟩) 1 1] 25)
               have GG := Hy (W6.alloc (.cells #[.int .u8 97,.int .u64 0,.string s3,.slice (some ⟨g2,0,none⟩) 1 1] 25)) W6.heap.size 25 (eX key value s3) (some ⟨g2,0,none⟩) 1 (heap_alloc_new W6 _) (Kd.bD (Kd.bD HG.out.2 (Below.refl _ _)) bZ) (Nat.le_refl _)
               have HWL := U.mk (P3 (eX key value s3) LB.out.2.1 LB.out.2.2.1 (some ⟨W6.heap.size,0,none⟩) 1 (Nat.le_refl _) _ (AW (HI.out.up B9.out).t bZ) GG)
               clear GG
               refine HWL.out.mono ?_
               rintro e1 ki hq
               unfold BQ at hq
               obtain ⟨b5,rfl,hb,hf5⟩ := hq
               have lE := bZ.trans (aC hb (by simp))
               have bH := ez B9.out lE
               have F8 := U.mk lE
               have HF5 := U.mk hf5
               clear hb bZ hf5 lE HWL
               replace q0 := ag F8.out q0
               replace q1 := ag F8.out q1
               replace q2 := ag F8.out q2
               replace q3 := ag F8.out q3
               have B10 := U.mk bH
               clear p0 p1 p2 p3 p4 p5 p6 p7
               obtain ⟨p0,p1,p2,p3,p4,p5,p6,p7⟩ := iE HS.out bH
               clear bH
               cases b5 with
               | false=>
                 go_wp2_with fail
                 go_ret
                 exact ⟨rfl,aw HB.out B10.out⟩
               | true=>
                 go_wp2_with fail
                 have bZ := ab (Below.refl ki.heap.size ki) (.cells #[.int .u8 97,.int .u64 0,.string s3,.slice (some ⟨g2,0,none⟩) 1 1] 25)
                 have GG := Hy (ki.alloc (.cells #[.int .u8 97,.int .u64 0,.string s3,.slice (some ⟨g2,0,none⟩) 1 1] 25)) ki.heap.size 25 (eX key value s3) (some ⟨g2,0,none⟩) 1 (heap_alloc_new ki _) (Kd.bD (Kd.bD HG.out.2 F8.out) bZ) (Nat.le_refl _)
                 have HWD : U (Calls Tryz.prog 11 #[.slice (some ⟨ki.heap.size,0,none⟩) 1 1] (ki.alloc (.cells #[.int .u8 97,.int .u64 0,.string s3,.slice (some ⟨g2,0,none⟩) 1 1] 25)) (BQ True (ki.alloc (.cells #[.int .u8 97,.int .u64 0,.string s3,.slice (some ⟨g2,0,none⟩) 1 1] 25)))) := ⟨ad4 300 (eX key value s3) (HF5.out (by first | rfl | trivial)).1.2.2.1 (by have := LB.out.2.1; omega) (some ⟨ki.heap.size,0,none⟩) 1 _ GG⟩
                 clear GG
                 refine HWD.out.mono ?_
                 rintro e1 vM hq
                 unfold BQ at hq
                 obtain ⟨b6,rfl,hb,_⟩ := hq
                 have hb2 := bZ.trans (aC hb (by simp))
                 have lE := aw F8.out hb2
                 have bH := ez B10.out hb2
                 have afY := U.mk lE
                 replace q0 := ag hb2 q0
                 replace q1 := ag hb2 q1
                 replace q2 := ag hb2 q2
                 replace q3 := ag hb2 q3
                 clear hb hb2 bZ lE HWD
                 have B11 := U.mk bH
                 clear p0 p1 p2 p3 p4 p5 p6 p7
                 obtain ⟨p0,p1,p2,p3,p4,p5,p6,p7⟩ := iE HS.out bH
                 clear bH
                 cases b6 with
                 | false=>
                   go_wp2_with fail
                   go_ret
                   exact ⟨rfl,aw HB.out B11.out⟩
                 | true=>
                   obtain ⟨t,K,kU,hK⟩ := Va key value s3 (HF.out (by first | rfl | trivial)).1 (HF.out (by first | rfl | trivial)).2 LB.out.1 ix.out (HF5.out (by first | rfl | trivial))
                   have GY := U.mk (And.intro kU hK)
                   clear kU hK
                   go_wp2_with fail
                   have bZ := ab (Below.refl vM.heap.size vM) (.cells #[.int .u8 97,.int .u64 0,.string s3,.slice (some ⟨g2,0,none⟩) 1 1] 25)
                   have GG := Hy (vM.alloc (.cells #[.int .u8 97,.int .u64 0,.string s3,.slice (some ⟨g2,0,none⟩) 1 1] 25)) vM.heap.size 25 (eX key value s3) (some ⟨g2,0,none⟩) 1 (heap_alloc_new vM _) (Kd.bD (Kd.bD HG.out.2 afY.out) bZ) (Nat.le_refl _)
                   have Ra := AW (HI.out.up B11.out).t bZ
                   have HWE := U.mk (we1 (eX key value s3) (by rw [kP]; have := LB.out.2.1; omega) t 62 K GY.out.1 (by omega) GY.out.2 big (some ⟨vM.heap.size,0,none⟩) 1 (Nat.le_refl _) _ Ra (five _ Ra) GG)
                   clear GG Ra
                   refine HWE.out.mono ?_
                   rintro e1 gG ⟨⟨str,rfl⟩,hb⟩
                   have bH := ez B11.out (bZ.trans (aC hb (by simp)))
                   clear hb bZ HWE q0 q1 q2 q3
                   have B12 := U.mk bH
                   clear p0 p1 p2 p3 p4 p5 p6 p7
                   obtain ⟨p0,p1,p2,p3,p4,p5,p6,p7⟩ := iE HS.out bH
                   clear bH
                   obtain ⟨_,_,_,Dk,hc,hc0,Ku⟩ := LB.out
                   have Dg := acS key value s3 c hc hc0 _ Dk (HF5.out (by first | rfl | trivial)).1.2.2.2
                   have Df : sig key = Bs [c] := gQ (by rw [Ku,fH])
                   have HN3 := U.mk GV.out.1
                   rw [Df] at HN3
                   have Uh := U.mk Dg
                   clear Dk hc hc0 Ku Dg Df
                   go_wp2_with fail
                   refine (HN3.out _ _ _ (HI.out.up B12.out).k).mono ?_
                   rintro e1 Kn ⟨rfl,hb⟩
                   have bH := ez B12.out hb
                   have B13 := U.mk bH
                   clear hb bH p0 p1 p2 p3 p4 p5 p6 p7
                   go_wp2_with fail
                   refine (Yo c Uh.out _).mono ?_
                   rintro e1 w14 ⟨rfl,hb⟩
                   have bH := ez B13.out hb
                   have B14 := U.mk bH
                   clear hb bH
                   go_wp2_with fail
                   refine (aeu _).mono ?_
                   rintro e1 w15 ⟨rfl,hb⟩
                   have bH := ez B14.out hb
                   have B15 := U.mk bH
                   clear hb bH
                   go_wp2_with fail
                   refine (acG _).mono ?_
                   rintro e1 lR ⟨rfl,hb⟩
                   have bH := ez B15.out hb
                   have B16 := U.mk bH
                   clear hb bH
                   go_wp2_with fail
                   refine (acF _).mono ?_
                   rintro e1 w17 ⟨rfl,hb⟩
                   have bH := ez B16.out hb
                   have B17 := U.mk bH
                   clear hb bH
                   go_wp2_with fail
                   refine (Yn _).mono ?_
                   rintro e1 w18 ⟨rfl,hb⟩
                   have bH := ez B17.out hb
                   have B18 := U.mk bH
                   clear hb bH
                   go_wp2_with fail
                   go_ret
                   exact ⟨rfl,aw HB.out B18.out⟩
end Go.Proofs.YtkdebhgccpfkiaaGreatDoor.au
namespace Go.Proofs.YtkdebhgccpfkiaaGreatDoor.au
open Go.RowKit Go.Proofs.aa.az Go.Proofs.aa.aM Go.Proofs.aa.aU
attribute [local go_sem] ba bh
set_option linter.unusedVariables false
set_option linter.unusedSimpArgs false
def RG (x : aT) : Prop := ∀ z ∈ nodes x,0 ≤ z.f1 ∧ z.f1 < 18446744073709551616
theorem acI (x : aT) (h : 0 ≤ x.f1 ∧ x.f1 < 18446744073709551616) (hk : ∀ y ∈ x.f3,RG y) : RG x := by
 intro z hz
 rw [nodes_eq] at hz
 rcases List.mem_cons.mp hz with rfl | hz
 · exact h
 · obtain ⟨y,hy,h2⟩ := zV hz
   exact hk y hy z h2
section
open Go Go.Deep Go.ChangeShapes Go.WideShapes
instance : Inhabited aT := ⟨Xg⟩
variable {H : Type} {enc : TypeId × Value → H} {P : Program} {w : World} {base : Nat} {spare : Nat → Bool} {held : Bool}
theorem UM {α : Type} [Inhabited α] (d : Kd α) (Q : α → Prop) {t e : TypeId} (ht : P.underlying t = some (.slice e)) (hc : P.cellsOf e = d.sz)
 {fuel : Nat} {cs : List Value} {x : DataW H × List MemPlace}
 (hel : ∀ (n : Nat),n < fuel → ∀ (cs : List Value) (y : DataW H × List MemPlace),DataW.trod enc P w base spare held n e cs = some y → ∃ x,d.K w x cs ∧ Q x)
 (h : DataW.trod enc P w base spare held fuel t cs = some x) :
 ∃ (A : Option Addr) (xs : List α) (c : Nat),cs = [.slice A xs.length c] ∧ xs.length ≤ c ∧ d.C w A xs.length xs ∧ ∀ x ∈ xs,Q x := by
 rcases DataW.trod_slice ht h with h0 | ⟨a,len,cap,elems,rest,n,rfl,rfl,_,hb,hl,hm,ahl,hx,_,_⟩
 · exact ⟨none,[],0,h0.1,Nat.le_refl _,⟨rfl,Nat.zero_le _,fun h => absurd h (Nat.lt_irrefl _)⟩,fun x hx => by cases hx⟩
 · have each : ∀ i,i < len → ∃ q : α,∃ c,c.length = d.sz ∧ d.K w q c ∧ (∀ j u,c[j]? = some u → w.cell? (a.add (i * d.sz + j)) = some u) ∧ Q q := by
    intro i hi
    have h3 := hx i hi
    rw [List.getElem?_eq_getElem (by omega)] at h3
    obtain ⟨cs', h1,h2⟩ := Option.bind_eq_some_iff.mp h3
    obtain ⟨q,hq,hQ⟩ := hel n (Nat.lt_succ_self n) cs' _ h2
    rw [hc] at h1
    obtain ⟨_,hlen,hcell⟩ := World.cells?_some h1
    refine ⟨q,cs', hlen,hq,fun j u hu => ?_,hQ⟩
    have hj : j < d.sz := by have := (List.getElem?_eq_some_iff.1 hu).1; omega
    have := hcell j hj
    rw [Deep.add_add] at this
    rw [this,hu]
   obtain ⟨q,hq⟩ := choose_lt each
   refine ⟨some a,(List.range len).map q,cap,by simp,by simpa using hl,⟨by simp,by simp; unfold maxLen at hm; omega,fun _ => ⟨a,rfl,fun j p hj => ?_⟩⟩,fun x hx => ?_⟩
   · have K6 : j < len := by have := (List.getElem?_eq_some_iff.1 hj).1; simpa using this
     have hp : p = q j := by simp [K6] at hj; exact hj.symm
     subst hp
     obtain ⟨c,c1,c2,c3,_⟩ := hq j K6
     exact ⟨c,c1,c2,c3⟩
   · obtain ⟨i,hi,rfl⟩ := List.mem_map.mp hx
     obtain ⟨c,_,_,_,h4⟩ := hq i (List.mem_range.mp hi)
     exact h4
def SN (w : World) (x : aT) (cs : List Value) : Prop := ∃ (A : Option Addr) (c : Nat),cs = [.int .u8 x.f0,.int .u64 x.f1,.string x.f2,.slice A x.f3.length c] ∧ x.f3.length ≤ c ∧ Kd.C dF w A x.f3.length x.f3
theorem aaw : ∀ (n : Nat) (cs : List Value) (y : DataW H × List MemPlace),DataW.trod enc Tryz.prog w base spare held n 25 cs = some y → ∃ x,dF.K w x cs ∧ RG x ∧ SN w x cs := by
 intro n
 induction n using Nat.strongRecOn with
 | _ n ih=>
 intro cs y h
 obtain ⟨xs,m,rfl,_,hl,hxl,hf⟩ := DataW.trod_struct Tryz.underlying25 h
 have e25 : Tryz.prog.cellsOf 25 = 4 := by kernel_rfl
 have e5 : Tryz.prog.cellsOf 5 = 1 := by kernel_rfl
 have e22 : Tryz.prog.cellsOf 22 = 1 := by kernel_rfl
 have e9 : Tryz.prog.cellsOf 9 = 1 := by kernel_rfl
 have e23 : Tryz.prog.cellsOf 23 = 1 := by kernel_rfl
 rw [e25] at hl
 match cs,hl,xs,hxl with
 | [v0,v1,v2,v3],_,[y0,y1,y2,y3],_=>
   have g0 := hf 0 _ rfl
   have g1 := hf 1 _ rfl
   have g2 := hf 2 _ rfl
   have g3 := hf 3 _ rfl
   simp only [e5,e22,e9,e23,List.drop_succ_cons,List.drop_zero,List.take_succ_cons,List.take_zero,List.getElem?_cons_zero,List.getElem?_cons_succ] at g0 g1 g2 g3
   obtain ⟨a,ha,_,_⟩ := DataW.trod_int Tryz.underlying5 g0
   obtain ⟨b,hb,_,eK⟩ := DataW.trod_int Tryz.underlying22 g1
   obtain ⟨s,hs,_⟩ := DataW.trod_string Tryz.underlying9 g2
   obtain ⟨A,rows,c,hc,hle,hC,hQ⟩ := UM dF RG Tryz.underlying23 e25 (fun n' hn' cs y h => by obtain ⟨x,h1,h2,_⟩ := ih n' (by omega) cs y h; exact ⟨x,h1,h2⟩) g3
   injection ha with ha
   injection hb with hb
   injection hs with hs
   injection hc with hc
   subst ha hb hs hc
   have hr : 0 ≤ b ∧ b < 18446744073709551616 := by
    simp [Lit.wf,IntKind.min,IntKind.max,IntKind.signed,IntKind.bits] at eK
    omega
   exact ⟨⟨a,b,s,rows⟩,Ed w ⟨a,b,s,rows⟩ hle hC,acI _ hr hQ,A,c,rfl,hle,hC⟩
end
end Go.Proofs.YtkdebhgccpfkiaaGreatDoor.au
