import Derived.Test.YtkdebhgccpfkiaaGreatDoorQKS2
import Derived.Test.YtkdebhgccpfkiaaGreatDoorQKE1
import Derived.Test.YtkdebhgccpfkiaaGreatDoorQKX1
import Derived.Shelf.Unicode.ValidAny
set_option maxRecDepth 100000
set_option maxHeartbeats 16000000
namespace Go.Proofs.YtkdebhgccpfkiaaGreatDoor.au
open Go.RowKit Go.Proofs.aa.az Go.Proofs.aa.aM Go.Proofs.aa.aU
attribute [local go_sem] ba bh
set_option linter.unusedVariables false
set_option linter.unusedSimpArgs false
open Go.Proofs.YtkdebhgccpfkiaaGreatDoor.fD Go.Proofs.YtkdebhgccpfkiaaGreatDoor.fO Go.Proofs.YtkdebhgccpfkiaaGreatDoor.gw
attribute [-go_sem] Builtin.append_
mutual
def nodes : aT → List aT
 | ⟨a,b,s,l⟩ => ⟨a,b,s,l⟩ :: aJ l
def aJ : List aT → List aT
 | [] => []
 | x :: r => nodes x ++ aJ r
end
theorem nodes_eq (x : aT) : nodes x = x :: aJ x.f3 := by cases x; simp [nodes]
theorem ee (a b : List aT) : aJ (a ++ b) = aJ a ++ aJ b := by
 induction a with
 | nil => simp [aJ]
 | cons x r ih => simp [aJ,ih]
theorem eH (a : List aT) : a.length ≤ (aJ a).length := by
 induction a with
 | nil => simp
 | cons x r ih => rw [aJ,nodes_eq]; simp only [List.length_cons,List.length_append]; omega
def DL (w W : World) (v : Value) (rows : List aT) : Prop := ∃ inner,W.ownsRow w.heap.size 25 4 v rows.length inner ∧ eG (dF.K w) 4 rows inner
theorem Y5 : (Tryz.prog.info? 25).map (fun i => (i.zero,i.size,i.bytes)) = some (some (.agg #[(.int .u8 0),(.int .u64 0),(.string ⟨#[]⟩),(.slice none 0 0)]),4,56) := by kernel_rfl
theorem J7 {P : Program} {w : World} (base : Nat) (t ty e : TypeId) (i : TypeInfo) (size c : Nat) (ht : P.underlying t = some (.slice e)) (hi : P.info? e = some i)
 (v : Value) (n : Nat) (xs : List Value) (hown : w.ownsRow base e size v n xs) :
 (Builtin.append_ #[t,t] ty #[v,.slice none 0 c]).run P w = .ok v w := by
 rcases hown.2 with ⟨rfl,rfl⟩ | ⟨g,cap,cur,rfl,_,_,Gs,_⟩
 · simp [Builtin.append_,run_underlying ht,sizeOf,typeInfo,hi,Builtin.lenOf,Builtin.firstCells]
 · simp [Builtin.append_,run_underlying ht,sizeOf,typeInfo,hi,Builtin.lenOf,Builtin.firstCells,Gs,storeCells]
theorem Lx {w W : World} {v : Value} {rows : List aT} (hT : DL w W v rows) (hb : Below w.heap.size w W) (A3 : Option Addr) (kids : List aT) (c3 : Nat) (hC : Kd.C dF w A3 kids.length kids) (hl : rows.length + kids.length ≤ 1000) :
 ∃ A1 c1 w7,(Builtin.append_ #[23,23] 23 #[v,.slice A3 kids.length c3]).run Tryz.prog W = .ok (.slice A1 (rows.length + kids.length) c1) w7 ∧ DL w w7 (.slice A1 (rows.length + kids.length) c1) (rows ++ kids) ∧ Below w.heap.size w w7 := by
 obtain ⟨inner,hO,hR⟩ := hT
 obtain ⟨i0,hi,gr⟩ := Option.map_eq_some_iff.1 Y5
 simp only [Prod.mk.injEq] at gr
 obtain ⟨il,vu,zE⟩ := gr
 cases A3 with
 | none=>
   have hk : kids = [] := by
    cases kids with
    | nil => rfl
    | cons k r => obtain ⟨ad,e,_⟩ := hC.2.2 (by simp); cases e
   subst hk
   obtain ⟨A,c,rfl⟩ := dX hO
   exact ⟨A,c,W,J7 _ 23 23 25 i0 4 c3 Tryz.underlying23 hi _ _ _ hO,by rw [List.append_nil]; exact ⟨inner,hO,hR⟩,hb⟩
 | some ad=>
   obtain ⟨ik,OD,Ox⟩ := ft.Y3 hC
   have h1 : ∀ u ∈ ik,u.oneCell' = true := Kd.Il OD (by decide) (fun p c hp => dF.eI hp)
   obtain ⟨v1,w7,hr,hown,hg,_⟩ := run_append_own (P := Tryz.prog) W w.heap.size 23 23 25 i0 _ 4 56 Tryz.underlying23 hi il vu zE rfl (by omega) v rows.length inner hO ad kids.length c3 ik OD.1
    (fun j u hj => ag hb (Ox j u hj)) h1 (by unfold maxLen; omega) (by omega) hb.size
   obtain ⟨A1,c1,rfl⟩ := dX hown
   exact ⟨A1,c1,w7,hr,⟨inner ++ ik,by rw [List.length_append]; exact hown,Kd.J9 hR OD⟩,hb.trans (yR hg (fun q hq => dY hO q hq) hb.size)⟩
theorem P7 {w W : World} {A : Option Addr} {c : Nat} {rest : List aT} {x : aT} (h : DL w W (.slice A (rest.length + 1) c) (rest ++ [x])) : (∃ g A3 c3,A = some ⟨g,0,none⟩ ∧ W.cell? ⟨g,rest.length * 4,none⟩ = some (.int .u8 x.f0) ∧ W.cell? ⟨g,rest.length * 4 + 1,none⟩ = some (.int .u64 x.f1) ∧ W.cell? ⟨g,rest.length * 4 + 2,none⟩ = some (.string x.f2) ∧ W.cell? ⟨g,rest.length * 4 + 3,none⟩ = some (.slice A3 x.f3.length c3) ∧ Kd.C dF w A3 x.f3.length x.f3) ∧ DL w W (.slice A rest.length c) rest := by
 obtain ⟨inner,hO,hR⟩ := h
 rw [List.length_append,List.length_singleton] at hO
 have hK := hR.2 rest.length x (by rw [List.getElem?_append_right (Nat.le_refl _)]; simp)
 obtain ⟨A3,c3,hcs,_,hC⟩ := IV hK
 refine ⟨?_,inner.take (rest.length * 4),Qm hO (by omega),?_⟩
 · rcases hO.2 with ⟨e,h0⟩ | ⟨g,cap,cur,e,hg,r⟩
   · omega
   · injection e with e1 _ _
     have hcell : ∀ q u,[.int .u8 x.f0,.int .u64 x.f1,.string x.f2,.slice A3 x.f3.length c3][q]? = some u → W.cell? ⟨g,rest.length * 4 + q,none⟩ = some u := by
      intro q u hq
      rw [← hcs,List.getElem?_take] at hq
      split at hq
      · rw [List.getElem?_drop] at hq
        have hc := hO.cells (g := g) (by rw [e1]; rfl) _ u hq
        have ha : (⟨g,0,none⟩ : Addr).add (rest.length * 4 + q) = ⟨g,rest.length * 4 + q,none⟩ := by unfold Addr.add; split <;> simp_all
        rwa [ha] at hc
      · cases hq
     exact ⟨g,A3,c3,e1,hcell 0 _ rfl,hcell 1 _ rfl,hcell 2 _ rfl,hcell 3 _ rfl,hC⟩
 · have h := Kd.Nh hR (m := rest.length) (by simp)
   rwa [List.take_left] at h
theorem Rp (L : List aT) (mo : Nat) (hmo : mo ≤ 400) (hL : L.length ≤ 1000000000) (A : Option Addr) (c : Nat) (w : World) (hC : Kd.C dF w A L.length L) :
 Calls Tryz.prog 5 #[.slice A L.length c,.int .i64 (mo : Int)] w fun e w' => ∃ b,e = .returned (.bool b) ∧ Below w.heap.size w w' ∧ (b = true → (aJ L).length ≤ mo ∧ ∀ x ∈ aJ L,x.f2.size ≤ 65536) := by
 by_cases Q9 : mo < L.length
 · have hd : decide ((mo : Int) < (L.length : Int)) = true := by simpa using Q9
   go_enter Tryz.func5,Tryz.ntmps5
   go_wp2
   go_ret
   exact ⟨_,rfl,Below.refl _ _,fun h => by cases h⟩
 · have hd : decide ((mo : Int) < (L.length : Int)) = false := by simpa using Q9
   obtain ⟨n,hn⟩ : ∃ n,L.length = n := ⟨_,rfl⟩
   have HC := U.mk hC
   have HN := U.mk hn
   rw [hn] at hd Q9 hL ⊢
   clear hC hn
   go_enter Tryz.func5,Tryz.ntmps5
   have ht0 : DL w (w.alloc (.cells #[] 25)) (.slice (some ⟨w.heap.size,0,none⟩) 0 0) [] := ⟨[],⟨rfl,.inr ⟨w.heap.size,0,#[],rfl,Nat.le_refl _,heap_alloc_new w _,Nat.le_refl _,by decide,rfl,rfl⟩⟩,eG.none _ _⟩
   obtain ⟨A1,c1,w7,hr,I3,jP⟩ := Lx ht0 (ab (Below.refl _ _) _) A L c HC.out (by have := HN.out; simp; omega)
   simp only [List.length_nil,Nat.zero_add,List.nil_append,HN.out] at hr I3
   have HT7 := U.mk I3
   have zQ := U.mk jP
   clear ht0 I3 jP
   go_wp2_with fail
   go_loopg [5,6,7] (aJ L).length (fun kq v5 v6 v7 wr => ∃ (rows : List aT) (A2 : Option Addr) (c2 b nn : Nat),v5 = .slice A2 rows.length c2 ∧ v6 = .int .i64 (b : Int) ∧ v7 = .int .i64 (nn : Int) ∧ b ≤ 65536 ∧ nn ≤ mo ∧ rows.length ≤ nn ∧ U (kq = (aJ rows).length ∧ DL w wr (.slice A2 rows.length c2) rows ∧ Below w.heap.size w wr ∧ nn + (aJ rows).length = (aJ L).length + rows.length ∧ ∀ x ∈ aJ L,x ∈ aJ rows ∨ x.f2.size ≤ 65536))
   case atStart => exact ⟨L,A1,c1,0,n,by rw [HN.out],rfl,rfl,by omega,by omega,by rw [HN.out]; omega,⟨rfl,by rw [HN.out]; exact HT7.out,zQ.out,by rw [HN.out]; omega,fun x hx => .inl hx⟩⟩
   case round=>
    obtain ⟨rows,A2,c2,b,nn,rfl,rfl,rfl,hb,fL,bY,HI⟩ := hrel
    rcases List.eq_nil_or_concat rows with rfl | ⟨rest,x,rfl⟩
    · go_wp2_with fail
      go_ret
      refine ⟨_,rfl,HI.out.2.2.1,fun _ => ⟨?_,fun x hx => ?_⟩⟩
      · have h1 := HI.out.2.2.2.1
        simp [aJ] at h1
        omega
      · rcases HI.out.2.2.2.2 x hx with h | h
        · simp [aJ] at h
        · exact h
    · rw [List.concat_eq_append] at bY HI ⊢
      obtain ⟨K5,hT,hBw,FU,L4⟩ := HI.out
      rw [List.length_append,List.length_singleton] at hT bY FU ⊢
      obtain ⟨⟨g,A3,c3,rfl,p0,p1,p2,p3,bN⟩,EA⟩ := P7 hT
      have FV : rest.length + 1 ≤ c2 := by
       obtain ⟨inner,hO,_⟩ := hT
       have := Nr hO
       simpa using this
      obtain ⟨m,hm⟩ : ∃ m,rest.length = m := ⟨_,rfl⟩
      obtain ⟨ln,eV⟩ : ∃ ln,m + 1 = ln := ⟨_,rfl⟩
      obtain ⟨kn,KZ⟩ : ∃ kn,x.f3.length = kn := ⟨_,rfl⟩
      rw [KZ] at p3
      simp only [hm] at p0 p1 p2 p3 FV bY FU EA ⊢
      simp only [eV] at FV bY FU ⊢
      have Oj : IntKind.i64.wrap ((ln : Int) - 1) = (m : Int) := by rw [IntKind.wrap_i64]; omega
      have hl0 : decide ((0 : Int) < (ln : Int)) = true := by simp; omega
      have gh : ((0 : Int) ≤ (m : Int)) = True := eq_true (by omega)
      have km : ((m : Int) < (ln : Int)) = True := eq_true (by omega)
      have gU : ((m : Int) ≤ (c2 : Int)) = True := eq_true (by omega)
      have KU : (m < ln) = True := eq_true (by omega)
      have hm4 : (m ≤ c2) = True := eq_true (by omega)
      have Oq : aJ (rest ++ [x]) = aJ rest ++ (x :: aJ x.f3) := by rw [ee]; simp [aJ,nodes_eq]
      have KT : x.f3.length ≤ (aJ x.f3).length := eH x.f3
      have HX := U.mk (And.intro K5 (And.intro FU (And.intro L4 (And.intro Oq (And.intro KZ (And.intro hm eV))))))
      have HT2 := U.mk EA
      have PL := U.mk hBw
      have lb := U.mk bN
      clear K5 FU L4 Oq hT EA hBw bN HI
      by_cases hS : x.f2.size ≤ 65536
      · have d1 : decide ((65536 : Int) < (x.f2.size : Int)) = false := by simp; omega
        by_cases hk : kn ≤ mo
        · have d2 : decide ((mo : Int) < (kn : Int)) = false := by simp; omega
          obtain ⟨b2,hb2⟩ : ∃ b2,b + x.f2.size = b2 := ⟨_,rfl⟩
          obtain ⟨n2,gD⟩ : ∃ n2,nn + kn = n2 := ⟨_,rfl⟩
          have Bq : IntKind.i64.wrap ((b : Int) + (x.f2.size : Int)) = (b2 : Int) := by rw [IntKind.wrap_i64]; omega
          have hw3 : IntKind.i64.wrap ((nn : Int) + (kn : Int)) = (n2 : Int) := by rw [IntKind.wrap_i64]; omega
          by_cases hB : b2 ≤ 65536
          · have d3 : decide ((65536 : Int) < (b2 : Int)) = false := by simp; omega
            by_cases hN : n2 ≤ mo
            · have d4 : decide ((mo : Int) < (n2 : Int)) = false := by simp; omega
              have bZ := ab (Below.refl wr.heap.size wr) (.cells #[.int .u8 x.f0,.int .u64 x.f1,.string x.f2,.slice A3 kn c3] 25)
              have Gp : DL w (wr.alloc (.cells #[.int .u8 x.f0,.int .u64 x.f1,.string x.f2,.slice A3 kn c3] 25)) (.slice (some ⟨g,0,none⟩) rest.length c2) rest := by
               obtain ⟨inner,hO,hR⟩ := HT2.out
               rw [← HX.out.2.2.2.2.2.1] at hO
               exact ⟨inner,hO.alloc _,hR⟩
              obtain ⟨A4,c4,w7,hr,I3,jP⟩ := Lx Gp (aw PL.out bZ) A3 x.f3 c3 lb.out (by have h1 := HX.out.2.2.2.2; omega)
              rw [HX.out.2.2.2.2.1,HX.out.2.2.2.2.2.1] at hr I3
              have HT7 := U.mk I3
              have zQ := U.mk jP
              clear Gp I3 jP bZ
              go_wp2_with fail
              obtain ⟨K5,FU,L4,Oq,aeT,hm', aib⟩ := HX.out
              have hlen : (rest ++ x.f3).length = m + kn := by rw [List.length_append,hm', aeT]
              have ah5 : (aJ (rest ++ x.f3)).length = (aJ rest).length + (aJ x.f3).length := by rw [ee,List.length_append]
              have ah4 : (aJ (rest ++ [x])).length = (aJ rest).length + (aJ x.f3).length + 1 := by rw [Oq,List.length_append,List.length_cons]; omega
              go_roundg (aJ (rest ++ x.f3)).length
              case measure => omega
              case rel=>
               refine ⟨rest ++ x.f3,A4,c4,b2,n2,by rw [hlen],rfl,rfl,hB,hN,by omega,⟨rfl,by rw [hlen]; exact HT7.out,zQ.out,by omega,fun z hz => ?_⟩⟩
               rcases L4 z hz with h | h
               · rw [Oq] at h
                 rcases List.mem_append.1 h with h | h
                 · exact .inl (by rw [ee]; exact List.mem_append_left _ h)
                 · rcases List.mem_cons.1 h with rfl | h
                   · exact .inr hS
                   · exact .inl (by rw [ee]; exact List.mem_append_right _ h)
               · exact .inr h
            · have d4 : decide ((mo : Int) < (n2 : Int)) = true := by simp; omega
              have e4 : decide (mo < n2) = true := by simp; omega
              go_wp2_with fail
              go_ret
              exact ⟨_,rfl,ab PL.out _,fun h => by cases h⟩
          · have d3 : decide ((65536 : Int) < (b2 : Int)) = true := by simp; omega
            have e3 : decide (65536 < b2) = true := by simp; omega
            go_wp2_with fail
            go_ret
            exact ⟨_,rfl,ab PL.out _,fun h => by cases h⟩
        · have d2 : decide ((mo : Int) < (kn : Int)) = true := by simp; omega
          have e2 : decide (mo < kn) = true := by simp; omega
          go_wp2_with fail
          go_ret
          exact ⟨_,rfl,ab PL.out _,fun h => by cases h⟩
      · have d1 : decide ((65536 : Int) < (x.f2.size : Int)) = true := by simp; omega
        have e1 : decide (65536 < x.f2.size) = true := by simp; omega
        go_wp2_with fail
        go_ret
        exact ⟨_,rfl,ab PL.out _,fun h => by cases h⟩
end Go.Proofs.YtkdebhgccpfkiaaGreatDoor.au
namespace Go.Proofs.YtkdebhgccpfkiaaGreatDoor.dI
open Go Go.RowKit Go.Proofs.YtkdebhgccpfkiaaGreatDoor.au Go.Proofs.aa.az Go.Proofs.aa.aM Go.Proofs.YtkdebhgccpfkiaaGreatDoor.fD Go.Proofs.YtkdebhgccpfkiaaGreatDoor.fO
set_option linter.unusedVariables false
theorem fq (s : ByteArray) (p : Nat) : bl (s.extract p s.size) = (bl s).drop p := by
 rw [fb]; exact List.take_of_length_le (by rw [List.length_drop,bF]; omega)
theorem size_drop (s : ByteArray) (p : Nat) : (s.extract p s.size).size = s.size - p := by
 rw [← bF,fq,List.length_drop,bF]
theorem Pd : ∀ n : Fin 256,dC.f (n.val : Int) = some (dy (UInt8.ofNat n.val)) := by decide +kernel
theorem F2 (c : UInt8) : dC.f (c.toNat : Int) = some (dy c) := by
 have := Pd ⟨c.toNat,c.toNat_lt⟩
 simpa using this
theorem gP {s : ByteArray} {c : UInt8} {r : List UInt8} (h : bl s = c :: r) : bt s 0 = (c.toNat : Int) := by
 have := lO s 0
 rw [h] at this
 exact this
theorem gn {s : ByteArray} {p : Nat} {c : UInt8} {r : List UInt8} (h : (bl s).drop p = c :: r) : bt s (p : Int) = (c.toNat : Int) := by
 rw [lO]
 have e : (bl s).getD p 0 = ((bl s).drop p).getD 0 0 := by simp [List.getD_eq_getElem?_getD]
 rw [e,h]; rfl
theorem MJ (t : Nat) (h : t ≤ 1000000000) : wrap64 ((t : Int) + 3) = ((t + 3 : Nat) : Int) := fK (by omega) (by omega)
theorem SS (t : Nat) (h : t ≤ 1000000000) : wrap64 ((t : Int) + 4) = ((t + 4 : Nat) : Int) := fK (by omega) (by omega)
theorem dN {c : UInt8} (d : UInt8) : (c.toNat : Int) = (d.toNat : Int) ↔ c = d := by
 constructor
 · intro h; exact UInt8.toNat_inj.mp (by exact_mod_cast h)
 · intro h; rw [h]
section
theorem JE (k : Nat) (s : ByteArray) (A B E : Int) : ar.f (k + 1) s A B E = ar.j0 k s A B E (decide (s.size = 0 ∨ A < 0 ∨ B < 0 ∨ E < 0)) := by
 simp only [ar.f]
 by_cases h0 : s.size = 0
 · rw [if_pos ((ji s).mpr h0),decide_eq_true (.inl h0)]
 rw [if_neg (fun q => h0 ((ji s).mp q))]
 by_cases hA : A < 0
 · rw [if_pos hA,decide_eq_true (.inr (.inl hA))]
 rw [if_neg hA]
 by_cases hB : B < 0
 · rw [if_pos hB,decide_eq_true (.inr (.inr (.inl hB)))]
 rw [if_neg hB]
 congr 1
 exact decide_eq_decide.mpr ⟨fun h => .inr (.inr (.inr h)),fun h => by rcases h with h | h | h | h <;> first | exact absurd h h0 | exact absurd h hA | exact absurd h hB | exact h⟩
theorem NU (k : Nat) (s : ByteArray) (A B E : Int) : ar.j0 (k + 1) s A B E true = some 0 := by
 simp only [ar.j0]; exact if_pos trivial
theorem US (k : Nat) {s : ByteArray} {c : UInt8} {r : List UInt8} (h : bl s = c :: r) (A B E : Int) : ar.j0 (k + 1) s A B E false = ar.j1 k s A B E (cj c) := by
 simp only [ar.j0]
 have hz : 0 < s.size := by rw [← bF,h]; simp
 rw [if_neg (by decide),if_pos (by omega),gP h,F2]
 show (if dy c = true then _ else _) = _
 by_cases hb : dy c = true
 · rw [if_pos hb]; simp [cj,hb]
 · rw [if_neg hb]
   congr 1
   simp only [cj,Bool.eq_false_iff.mpr hb,Bool.false_or]
   rw [Bool.eq_iff_iff,beq_iff_eq,beq_iff_eq]
   exact dN 118
theorem Y1 (k : Nat) (s : ByteArray) (A B E : Int) : ar.j1 (k + 1) s A B E true = some 1 := by
 simp only [ar.j1]; exact if_pos trivial
theorem UR (k : Nat) {s : ByteArray} {r : List UInt8} (h : bl s = 97 :: 123 :: r) (A B E : Int) : ar.j1 (k + 1) s A B E false = ar.j2 k s A B E true := by
 simp only [ar.j1]
 have hz : s.size = r.length + 2 := by rw [← bF,h]; simp
 have h1 : bt s 1 = 123 := gn (s := s) (p := 1) (c := 123) (r := r) (by rw [h]; rfl)
 rw [if_neg (by decide),if_pos (by omega),gP h,if_pos (by rfl),if_pos (by omega),if_pos (by omega),h1]; rfl
theorem QI (k : Nat) {s : ByteArray} {c : UInt8} {r : List UInt8} (h : bl s = c :: r) (hn : ¬ (c = 97 ∧ ∃ q,r = 123 :: q)) (A B E : Int) : ar.j1 (k + 1) s A B E false = ar.j2 k s A B E false := by
 simp only [ar.j1]
 have hz : s.size = r.length + 1 := by rw [← bF,h]; simp
 rw [if_neg (by decide),if_pos (by omega),gP h]
 by_cases hc : c = 97
 · rw [if_pos (show (c.toNat : Int) = 97 from (dN 97).mpr hc)]
   cases r with
   | nil => rw [if_neg (by simp at hz; omega)]
   | cons d q=>
     simp only [List.length_cons] at hz
     have h1 : bt s 1 = (d.toNat : Int) := gn (s := s) (p := 1) (c := d) (r := q) (by rw [h]; rfl)
     rw [if_pos (by omega),if_pos (by omega),h1]
     congr 1
     rw [beq_eq_false_iff_ne]
     intro e
     exact hn ⟨hc,q,by rw [(dN 123).mp e]⟩
 · rw [if_neg (show ¬ (c.toNat : Int) = 97 from fun q => hc ((dN 97).mp q))]
theorem NT (k : Nat) (s : ByteArray) (A B E : Int) : ar.j3 (k + 1) s A B E true = some 0 := by
 simp only [ar.j3]; exact if_pos trivial
theorem QH (k : Nat) {s : ByteArray} (h : s.size < 4) (A B E : Int) : ar.j2 (k + 1) s A B E true = ar.j3 k s A B E true := by
 simp only [ar.j2]
 rw [if_pos trivial,if_pos (by omega)]
theorem KL (k : Nat) {s : ByteArray} {c : UInt8} {r : List UInt8} (h : ¬ s.size < 4) (hc : (bl s).drop 2 = c :: r) (A B E : Int) : ar.j2 (k + 1) s A B E true = ar.j3 k s A B E (!dy c) := by
 simp only [ar.j2]
 have h1 : bt s 2 = (c.toNat : Int) := gn (s := s) (p := 2) hc
 rw [if_pos trivial,if_neg (by omega),if_pos (by omega),h1,F2]; rfl
end
def Mt (s : ByteArray) (A B E : Int) (n : Nat) : Prop:=
 (∀ x rest,T A B E x → bl s = x ++ rest → n = x.length) ∧ (0 < n → n ≤ s.size ∧ T A B E ((bl s).take n))
theorem fQ {s : ByteArray} {A B E : Int} (h : ∀ x rest,T A B E x → ¬ bl s = x ++ rest) : Mt s A B E 0:=
 ⟨fun x rest t e => absurd e (h x rest t),fun q => absurd q (by omega)⟩
section
variable (M : Nat) (hM : M ≤ 1000000000)
def Claim (n : Nat) : Prop := ∀ s : ByteArray,s.size ≤ n → s.size ≤ 1000000000 → ∀ A B E : Int,-5 ≤ A → A ≤ 1000 → -5 ≤ B → B ≤ 1000 → -5 ≤ E → E ≤ 1000 → ∃ n : Nat,Ev (fun k => ar.f k s A B E) (n : Int) ∧ Mt s A B E n
theorem loop (N : Nat) (ih : Claim N) (s : ByteArray) (hN : s.size ≤ N + 1) (hs : s.size ≤ 1000000000) (A B E : Int) (hA : 0 ≤ A) (hA2 : A ≤ 1000) (hB : 0 ≤ B) (eo : B ≤ 1000) (hE : 0 ≤ E) (Tx : E ≤ 1000) (d : Nat) :
 ∀ (pos : Nat) (xs : List (List UInt8)) (tail : List UInt8),s.size - pos = d → 1 ≤ pos → bl s = 40 :: (xs.flatten ++ tail) → pos = 1 + xs.flatten.length → (∀ x ∈ xs,T A (B - 1) E x) →
 ∃ n : Nat,Ev (fun k => ar.l0 k s A B E (pos : Int)) (n : Int) ∧
  (∀ ys rest,(∀ y ∈ ys,T A (B - 1) E y) → xs ++ ys ≠ [] → tail = ys.flatten ++ 41 :: rest → n = pos + ys.flatten.length + 1) ∧ (0 < n → n ≤ s.size ∧ T A B E ((bl s).take n)) := by
 induction d using Nat.strongRecOn with
 | _ d ihd=>
 intro pos xs tail hd hp hb Bu hxs
 have Ti : (bl s).drop pos = tail := by
  rw [hb,Bu,Nat.add_comm,List.drop_succ_cons]; simp
 have hlen : s.size = pos + tail.length := by rw [← bF,hb,Bu]; simp; omega
 have L3 : xs = [] ↔ pos = 1 := by
  constructor
  · intro h; rw [h] at Bu; simpa using Bu
  · intro h
    cases xs with
    | nil => rfl
    | cons x r=>
      have := (hxs x List.mem_cons_self).len
      simp at Bu; omega
 cases tail with
 | nil=>
   simp only [List.length_nil] at hlen
   refine ⟨0,Ev.step (f := fun k => ar.j5 k s A B E (pos : Int) false) (fun k => ?_) (Ev.step (f := fun _ => some 0) (fun k => ?_) (Ev.now _)),?_,fun q => absurd q (by omega)⟩
   · simp only [ar.l0]; rw [if_neg (by omega)]
   · simp only [ar.j5]
     rw [if_neg (by decide)]
     by_cases h1 : (pos : Int) > 1
     · rw [if_pos h1,if_neg (by omega)]
     · rw [if_neg h1]
   · intro ys rest _ _ e
     have := congrArg List.length e
     simp at this
 | cons c r=>
   simp only [List.length_cons] at hlen
   have hc : bt s (pos : Int) = (c.toNat : Int) := gn Ti
   have Ta : ∀ k,ar.l0 (k + 1) s A B E (pos : Int) = ar.j5 k s A B E (pos : Int) ((c.toNat : Int) != 41) := by
    intro k; simp only [ar.l0]; rw [if_pos (by omega),if_pos (by omega),hc]
   by_cases xH : c = 41
   · subst xH
     by_cases h1 : pos = 1
     · refine ⟨0,Ev.step Ta (Ev.step (f := fun _ => some 0) (fun k => ?_) (Ev.now _)),?_,fun q => absurd q (by omega)⟩
       · simp only [ar.j5]
         rw [if_neg (by decide),if_neg (by omega)]
       · intro ys rest hys hne e
         rw [L3.mpr h1,List.nil_append] at hne
         cases ys with
         | nil => exact absurd rfl hne
         | cons y ys=>
           obtain ⟨c', r', rfl,_,h,_⟩ := (hys y List.mem_cons_self).head
           simp at e
           exact absurd e.1.symm h
     · refine ⟨pos + 1,Ev.step Ta (Ev.step (f := fun _ => some ((pos + 1 : Nat) : Int)) (fun k => ?_) (Ev.now _)),?_,?_⟩
       · simp only [ar.j5]
         rw [if_neg (by decide),if_pos (by omega),if_pos (by omega),fK (by omega) (by omega)]; rfl
       · intro ys rest hys hne e
         cases ys with
         | nil => simp
         | cons y ys=>
           obtain ⟨c', r', rfl,_,h,_⟩ := (hys y List.mem_cons_self).head
           simp at e
           exact absurd e.1.symm h
       · intro _
         refine ⟨by omega,?_⟩
         have e : (bl s).take (pos + 1) = 40 :: (xs.flatten ++ [41]) := by
          rw [hb,Bu,List.take_succ_cons,Nat.add_comm 1,List.take_append]
          simp [List.take_of_length_le]
         rw [e]
         exact T.str hA hB hE (fun q => h1 (L3.mp q)) hxs
   · have aeZ : ((c.toNat : Int) != 41) = true := by
      rw [bne_iff_ne]; intro q; exact xH ((dN 41).mp q)
     obtain ⟨t,ht,zF,Br⟩ := ih (s.extract pos s.size) (by rw [size_drop]; omega) (by rw [size_drop]; omega) A (B - 1) E (by omega) hA2 (by omega) (by omega) (by omega) Tx
     rw [fq,Ti] at zF Br
     rw [size_drop] at Br
     have wB : wrap64 (B - 1) = B - 1 := fK (by omega) (by omega)
     have j5e : ∀ k,ar.j5 (k + 1) s A B E (pos : Int) ((c.toNat : Int) != 41) = (ar.f k (s.extract pos s.size) A (B - 1) E).bind fun t112 => (if t112 = 0 then (some 0) else (ar.l0 k s A B E (wrap64 ((pos : Int) + t112)))) := by
      intro k
      simp only [ar.j5]
      rw [if_pos aeZ,if_pos (by omega),if_pos (by omega),wB,Int.toNat_natCast]
     by_cases hz : t = 0
     · subst hz
       refine ⟨0,Ev.step Ta (Ev.step j5e (Ev.bind ht (aE rfl (fun _ => rfl) (Ev.now _)))),?_,fun q => absurd q (by omega)⟩
       intro ys rest hys hne e
       cases ys with
       | nil => simp at e; exact absurd e.1 xH
       | cons y ys=>
         have hy := hys y List.mem_cons_self
         have := zF y (ys.flatten ++ 41 :: rest) hy (by rw [e]; simp)
         have := hy.len
         omega
     · obtain ⟨ht3,Gp⟩ := Br (by omega)
       have cN : t ≤ r.length + 1 := by omega
       have hx : (c :: r) = (c :: r).take t ++ (c :: r).drop t := (List.take_append_drop t _).symm
       obtain ⟨n,hn,iK,gD⟩ := ihd (s.size - (pos + t)) (by omega) (pos + t) (xs ++ [(c :: r).take t]) ((c :: r).drop t) rfl (by omega)
        (by rw [hb]; simp only [List.flatten_append,List.flatten_cons,List.flatten_nil,List.append_nil,List.append_assoc]; rw [← hx])
        (by simp only [List.flatten_append,List.flatten_cons,List.flatten_nil,List.append_nil,List.length_append,List.length_take,List.length_cons]; omega)
        (by intro x hx; rcases List.mem_append.mp hx with h | h
            · exact hxs x h
            · rw [List.mem_singleton.mp h]; exact Gp)
       have e2 : wrap64 ((pos : Int) + (t : Int)) = ((pos + t : Nat) : Int) := fK (by omega) (by omega)
       refine ⟨n,Ev.step Ta (Ev.step j5e (Ev.bind ht (aV (by omega) (fun _ => rfl) ?_))),?_,gD⟩
       · rw [e2]; exact hn
       · intro ys rest hys hne e
         cases ys with
         | nil => simp at e; exact absurd e.1 xH
         | cons y ys=>
           have hy := hys y List.mem_cons_self
           have ey := zF y (ys.flatten ++ 41 :: rest) hy (by rw [e]; simp)
           have e3 : (c :: r).drop t = ys.flatten ++ 41 :: rest := by
            rw [e,ey]; simp
           have := iK ys rest (fun z hz => hys z (List.mem_cons_of_mem _ hz)) (by simp) e3
           rw [this]; simp; omega
end
structure Hid (p : Prop) : Prop where
 mk' ::
 out' : p
theorem complete (N : Nat) : Claim N := by
 induction N with
 | zero=>
   intro s h0 hs A B E a1 a2 b1 b2 e1 e2
   have hz : s.size = 0 := by omega
   refine ⟨0,Ev.step (fun k => JE k s A B E) ?_,fQ ?_⟩
   · rw [decide_eq_true (.inl hz)]
     exact Ev.step (f := fun _ => some 0) (fun k => NU k s A B E) (Ev.now _)
   · intro x rest t e
     have := t.len
     have h2 := congrArg List.length e
     rw [bF,List.length_append] at h2
     omega
 | succ N ih=>
   intro s h0 hs A B E a1 a2 b1 b2 e1 e2
   by_cases bad : s.size = 0 ∨ A < 0 ∨ B < 0 ∨ E < 0
   · refine ⟨0,Ev.step (fun k => JE k s A B E) ?_,fQ ?_⟩
     · rw [decide_eq_true bad]
       exact Ev.step (f := fun _ => some 0) (fun k => NU k s A B E) (Ev.now _)
     · intro x rest t e
       have h1 := t.len
       have h2 := congrArg List.length e
       have h3 := t.pos
       rw [bF,List.length_append] at h2
       omega
   have hA : 0 ≤ A := by omega
   have hB : 0 ≤ B := by omega
   have hE : 0 ≤ E := by omega
   obtain ⟨c,r,hb⟩ : ∃ c r,bl s = c :: r := by
    cases h : bl s with
    | nil => have : s.size = 0 := by rw [← bF,h]; rfl
             omega
    | cons c r => exact ⟨c,r,rfl⟩
   have hlen : s.size = r.length + 1 := by rw [← bF,hb]; simp
   have up : ∀ n,Ev (fun k => ar.j1 k s A B E (cj c)) n → Ev (fun k => ar.f k s A B E) n := by
    intro n h
    refine Ev.step (fun k => JE k s A B E) ?_
    rw [decide_eq_false bad]
    exact Ev.step (fun k => US k hb A B E) h
   have wA : Hid (wrap64 (A - 1) = A - 1) := Hid.mk' (fK (by omega) (by omega))
   have wE : Hid (wrap64 (E - 1) = E - 1) := Hid.mk' (fK (by omega) (by omega))
   cases ho : cj c with
   | true=>
     rw [ho] at up
     obtain ⟨_,ly,xr,_,_,_⟩ := eQ c ho
     refine ⟨1,up _ (Ev.step (f := fun _ => some 1) (fun k => Y1 k s A B E) (Ev.now _)),?_,?_⟩
     · intro x rest t e
       rw [hb] at e
       obtain ⟨_,_,_,h⟩ := t.cases
       rcases h with ⟨c', hc,rfl⟩ | ⟨x,hx,rfl⟩ | ⟨c', x,hc,hx,rfl⟩ | ⟨xs,hn,hx,rfl⟩
       · rfl
       · simp at e; exact absurd e.1 ly
       · simp at e; exact absurd e.1 ly
       · simp at e; exact absurd e.1 xr
     · intro _
       refine ⟨by omega,?_⟩
       rw [hb]
       exact T.one hA hB hE ho
   | false=>
     rw [ho] at up
     by_cases hd : c = 97 ∧ ∃ q,r = 123 :: q
     · obtain ⟨rfl,q,rfl⟩ := hd
       simp only [List.length_cons] at hlen
       have Ib : ∀ n,Ev (fun k => ar.j2 k s A B E true) n → Ev (fun k => ar.f k s A B E) n:=
        fun n h => up n (Ev.step (fun k => UR k hb A B E) h)
       have only : ∀ x rest,T A B E x → bl s = x ++ rest → ∃ c' y,dy c' = true ∧ T (A - 1) B (E - 1) y ∧ x = 97 :: 123 :: c' :: (y ++ [125]) ∧ q = c' :: (y ++ 125 :: rest) := by
        intro x rest t e
        rw [hb] at e
        obtain ⟨_,_,_,h⟩ := t.cases
        rcases h with ⟨c', hc,rfl⟩ | ⟨y,hy,rfl⟩ | ⟨c', y,hc,hy,rfl⟩ | ⟨xs,hn,hx,rfl⟩
        · simp at e; rw [← e.1] at hc; exact absurd hc (by decide)
        · obtain ⟨c2,r2,rfl,cd,_⟩ := hy.head
          simp at e; exact absurd e.1.symm cd
        · exact ⟨c', y,hc,hy,rfl,by simpa using e⟩
        · simp at e
       by_cases h4 : s.size < 4
       · refine ⟨0,Ib _ (Ev.step (fun k => QH k h4 A B E) (Ev.step (f := fun _ => some 0) (fun k => NT k s A B E) (Ev.now _))),fQ ?_⟩
         intro x rest t e
         obtain ⟨c', y,_,hy,_,rfl⟩ := only x rest t e
         have := hy.len
         simp at hlen; omega
       cases q with
       | nil => simp at hlen; omega
       | cons c2 q2=>
         simp only [List.length_cons] at hlen
         have Jp : (bl s).drop 2 = c2 :: q2 := by rw [hb]; rfl
         have aeV : (bl s).drop 3 = q2 := by rw [hb]; rfl
         cases OB : dy c2 with
         | false=>
           refine ⟨0,Ib _ (Ev.step (fun k => KL k h4 Jp A B E) ?_),fQ ?_⟩
           · rw [OB]; exact Ev.step (f := fun _ => some 0) (fun k => NT k s A B E) (Ev.now _)
           · intro x rest t e
             obtain ⟨c', y,Oz,_,_,e2⟩ := only x rest t e
             injection e2 with e3 _
             rw [e3,Oz] at OB; exact absurd OB (by decide)
         | true=>
           obtain ⟨t,ht,zF,Br⟩ := ih (s.extract 3 s.size) (by rw [size_drop]; omega) (by rw [size_drop]; omega) (A - 1) B (E - 1) (by omega) (by omega) (by omega) b2 (by omega) (by omega)
           rw [fq,aeV] at zF Br
           rw [size_drop] at Br
           have Ia : ∀ n,Ev (fun k => (ar.f k (s.extract 3 s.size) (A - 1) B (E - 1)).bind fun t110 => (if t110 = 0 then (some 0) else (if (s.size : Int) < (wrap64 (t110 + 4)) then (some 0) else (if 0 ≤ (wrap64 (t110 + 3)) then (if (wrap64 (t110 + 3)) < (s.size : Int) then (if (bt s (wrap64 (t110 + 3))) = 125 then (some (wrap64 (t110 + 4))) else (some 0)) else (none)) else (none))))) n → Ev (fun k => ar.f k s A B E) n := by
            intro n h
            refine Ib n (Ev.step (fun k => KL k h4 Jp A B E) ?_)
            rw [OB]
            refine Ev.step (fun k => ?_) h
            simp only [ar.j3]
            rw [Bool.not_true,if_neg (by decide),if_pos (by omega),wA.out', wE.out']
           by_cases hz : t = 0
           · subst hz
             refine ⟨0,Ia _ (Ev.bind ht (aE rfl (fun _ => rfl) (Ev.now _))),fQ ?_⟩
             intro x rest t e
             obtain ⟨c', y,_,hy,_,e2⟩ := only x rest t e
             injection e2 with e3 e4
             have := zF y (125 :: rest) hy (by rw [e4])
             have := hy.len
             omega
           · obtain ⟨ht3,Gp⟩ := Br (by omega)
             have iZ : t ≤ 1000000000 := by omega
             by_cases hsh : s.size < t + 4
             · refine ⟨0,Ia _ (Ev.bind ht (aV (by omega) (fun _ => rfl) (aE (by rw [SS t iZ]; omega) (fun _ => rfl) (Ev.now _)))),fQ ?_⟩
               intro x rest tt e
               obtain ⟨c', y,_,hy,_,e2⟩ := only x rest tt e
               injection e2 with e3 e4
               have h5 := zF y (125 :: rest) hy (by rw [e4])
               have h6 := congrArg List.length e4
               simp at h6; omega
             · obtain ⟨c5,r5,h5⟩ : ∃ c5 r5,q2.drop t = c5 :: r5 := by
                cases h : q2.drop t with
                | nil => have := congrArg List.length h; rw [List.length_drop] at this; simp at this; omega
                | cons c5 r5 => exact ⟨c5,r5,rfl⟩
               have Dh : (bl s).drop (t + 3) = c5 :: r5 := by rw [hb]; simpa using h5
               have Tu : bt s (wrap64 ((t : Int) + 3)) = (c5.toNat : Int) := by rw [MJ t iZ]; exact gn Dh
               by_cases lg : c5 = 125
               · refine ⟨t + 4,Ia _ (Ev.bind ht (aV (by omega) (fun _ => rfl) (aV (by rw [SS t iZ]; omega) (fun _ => rfl) (aE (by rw [MJ t iZ]; omega) (fun _ => rfl) (aE (by rw [MJ t iZ]; omega) (fun _ => rfl) (aE (by rw [Tu,lg]; rfl) (fun _ => rfl) (by rw [SS t iZ]; exact Ev.now _))))))),?_,?_⟩
                 · intro x rest tt e
                   obtain ⟨c', y,_,hy,rfl,e2⟩ := only x rest tt e
                   injection e2 with e3 e4
                   have h6 := zF y (125 :: rest) hy (by rw [e4])
                   simp; omega
                 · intro _
                   refine ⟨by omega,?_⟩
                   have e : (bl s).take (t + 4) = 97 :: 123 :: c2 :: (q2.take t ++ [125]) := by
                    rw [hb]
                    simp only [List.take_succ_cons]
                    have h7 : q2.take (t + 1) = q2.take t ++ [125] := by
                     rw [List.take_add,h5,lg]; rfl
                    rw [h7]
                   rw [e]
                   exact T.dict hA hB hE OB Gp
               · refine ⟨0,Ia _ (Ev.bind ht (aV (by omega) (fun _ => rfl) (aV (by rw [SS t iZ]; omega) (fun _ => rfl) (aE (by rw [MJ t iZ]; omega) (fun _ => rfl) (aE (by rw [MJ t iZ]; omega) (fun _ => rfl) (aV (by rw [Tu]; exact fun z => lg ((dN 125).mp z)) (fun _ => rfl) (Ev.now _))))))),fQ ?_⟩
                 intro x rest tt e
                 obtain ⟨c', y,_,hy,_,e2⟩ := only x rest tt e
                 injection e2 with e3 e4
                 have h6 := zF y (125 :: rest) hy (by rw [e4])
                 rw [e4,h6] at h5
                 simp at h5
                 exact lg h5.1.symm
     · have Ib : ∀ n,Ev (fun k => ar.j2 k s A B E false) n → Ev (fun k => ar.f k s A B E) n:=
        fun n h => up n (Ev.step (fun k => QI k hb hd A B E) h)
       by_cases kt : c = 97
       · subst kt
         have aeW : (bl s).drop 1 = r := by rw [hb]; rfl
         obtain ⟨t,ht,zF,Br⟩ := ih (s.extract 1 s.size) (by rw [size_drop]; omega) (by rw [size_drop]; omega) (A - 1) B E (by omega) (by omega) (by omega) b2 (by omega) e2
         rw [fq,aeW] at zF Br
         rw [size_drop] at Br
         have Ia : ∀ n,Ev (fun k => (ar.f k (s.extract 1 s.size) (A - 1) B E).bind fun t111 => (if t111 > 0 then (some (wrap64 (t111 + 1))) else (some 0))) n → Ev (fun k => ar.f k s A B E) n := by
          intro n h
          refine Ib n (Ev.step (fun k => ?_) h)
          simp only [ar.j2]
          rw [if_neg (by decide),if_pos (by omega),gP hb,if_pos (by rfl),if_pos (by omega),wA.out']
         have only : ∀ x rest,T A B E x → bl s = x ++ rest → ∃ y,T (A - 1) B E y ∧ x = 97 :: y ∧ r = y ++ rest := by
          intro x rest t e
          rw [hb] at e
          obtain ⟨_,_,_,h⟩ := t.cases
          rcases h with ⟨c', hc,rfl⟩ | ⟨y,hy,rfl⟩ | ⟨c', y,hc,hy,rfl⟩ | ⟨xs,hn,hx,rfl⟩
          · simp at e; rw [← e.1] at hc; exact absurd hc (by decide)
          · exact ⟨y,hy,rfl,by simpa using e⟩
          · exact absurd ⟨rfl,_,(List.cons.inj e).2⟩ hd
          · simp at e
         by_cases hz : 0 < t
         · obtain ⟨ht3,Gp⟩ := Br hz
           refine ⟨t + 1,Ia _ (Ev.bind ht (aE (by omega) (fun _ => rfl) (by rw [fK (by omega) (by omega)]; exact Ev.now _))),?_,?_⟩
           · intro x rest tt e
             obtain ⟨y,hy,rfl,e2⟩ := only x rest tt e
             have := zF y rest hy e2
             simp; omega
           · intro _
             refine ⟨by omega,?_⟩
             rw [hb,List.take_succ_cons]
             exact T.arr hA hB hE Gp
         · refine ⟨0,Ia _ (Ev.bind ht (aV (by omega) (fun _ => rfl) (Ev.now _))),fQ ?_⟩
           intro x rest tt e
           obtain ⟨y,hy,rfl,e2⟩ := only x rest tt e
           have := zF y rest hy e2
           have := hy.len
           omega
       · by_cases iv : c = 40
         · subst iv
           obtain ⟨n,hn,iK,gD⟩ := loop N ih s h0 hs A B E hA a2 hB b2 hE e2 (s.size - 1) 1 [] r rfl (by omega) (by rw [hb]; rfl) rfl (fun x hx => by cases hx)
           refine ⟨n,Ib _ (Ev.step (fun k => ?_) hn),?_,gD⟩
           · simp only [ar.j2]
             rw [if_neg (by decide),if_pos (by omega),gP hb,if_neg (by decide),if_pos (by rfl)]; rfl
           · intro x rest t e
             rw [hb] at e
             obtain ⟨_,_,_,h⟩ := t.cases
             rcases h with ⟨c', hc,rfl⟩ | ⟨y,hy,rfl⟩ | ⟨c', y,hc,hy,rfl⟩ | ⟨xs,hne,hx,rfl⟩
             · simp at e; rw [← e.1] at hc; exact absurd hc (by decide)
             · simp at e
             · simp at e
             · have := iK xs rest hx (by simpa using hne) (by simpa using e)
               rw [this]; simp; omega
         · refine ⟨0,Ib _ (Ev.step (f := fun _ => some 0) (fun k => ?_) (Ev.now _)),fQ ?_⟩
           · simp only [ar.j2]
             rw [if_neg (by decide),if_pos (by omega),gP hb,if_neg (show ¬ (c.toNat : Int) = 97 from fun z => kt ((dN 97).mp z)),if_neg (show ¬ (c.toNat : Int) = 40 from fun z => iv ((dN 40).mp z))]
           · intro x rest t e
             rw [hb] at e
             obtain ⟨_,_,_,h⟩ := t.cases
             rcases h with ⟨c', hc,rfl⟩ | ⟨y,hy,rfl⟩ | ⟨c', y,hc,hy,rfl⟩ | ⟨xs,hne,hx,rfl⟩
             · simp at e; rw [← e.1,ho] at hc; exact absurd hc (by decide)
             · simp at e; exact kt e.1
             · simp at e; exact kt e.1
             · simp at e; exact iv e.1
end Go.Proofs.YtkdebhgccpfkiaaGreatDoor.dI
namespace Go.Proofs.YtkdebhgccpfkiaaGreatDoor.fg
open Go Go.RowKit Go.Proofs.YtkdebhgccpfkiaaGreatDoor.au Go.Proofs.aa.az Go.Proofs.aa.aM Go.Proofs.YtkdebhgccpfkiaaGreatDoor.fD Go.Proofs.YtkdebhgccpfkiaaGreatDoor.fO Go.Proofs.YtkdebhgccpfkiaaGreatDoor.dI
set_option linter.unusedVariables false
theorem OT {A B E : Int} {x : List UInt8} {xs : List (List UInt8)} (hx : T A B E x) (h : ∀ y ∈ xs,T A B E y) : ∀ y ∈ x :: xs,T A B E y := by
 intro y hy
 rcases List.mem_cons.mp hy with rfl | hy
 · exact hx
 · exact h y hy
theorem UI (m : Nat) : ∀ (s : ByteArray) (acc : List ByteArray),s.size = m → m ≤ 1000 → acc.length + m ≤ 5000 → ∃ L b,Ev (fun k => cn.l0 k s acc) (L,b) ∧
 ((b = true ∧ ∃ zs : List ByteArray,L = acc ++ zs ∧ (∀ x ∈ zs.map bl,T 32 32 32 x) ∧ bl s = (zs.map bl).flatten) ∨ (b = false ∧ L = [] ∧ ∀ ys : List (List UInt8),(∀ x ∈ ys,T 32 32 32 x) → bl s ≠ ys.flatten)) := by
 induction m using Nat.strongRecOn with
 | _ m ih=>
 intro s acc hm gU ZM
 by_cases h0 : s.size = 0
 · refine ⟨acc,true,Ev.step (f := fun _ => some (acc,true)) (fun k => ?_) (Ev.now _),.inl ⟨rfl,[],by simp,fun x h => by (cases h),?_⟩⟩
   · simp only [cn.l0]; rw [if_pos ((ji s).mpr h0)]
   · exact List.eq_nil_of_length_eq_zero h0
 · obtain ⟨n,hn,h1,h2⟩ := complete s.size s (Nat.le_refl _) (by omega) 32 32 32 (by omega) (by omega) (by omega) (by omega) (by omega) (by omega)
   have hc : Ev (fun k => bn.f k s) (n : Int) := Ev.bind hn (Ev.now _)
   have st : ∀ k,cn.l0 (k + 1) s acc = (bn.f k s).bind fun t107 => (if t107 = 0 then (some (([] : List ByteArray),false)) else (if 0 ≤ t107 then (if t107 ≤ (s.size : Int) then (if acc.length < 8796093022208 then (cn.l0 k (s.extract (t107 : Int).toNat s.size) (acc ++ [s.extract 0 (t107 : Int).toNat])) else (none)) else (none)) else (none))) := by
    intro k; simp only [cn.l0]; rw [if_neg (fun q => h0 ((ji s).mp q))]
   by_cases hz : n = 0
   · subst hz
     refine ⟨[],false,Ev.step st (Ev.bind hc (aE rfl (fun _ => rfl) (Ev.now _))),.inr ⟨rfl,rfl,fun ys hys e => ?_⟩⟩
     cases ys with
     | nil => exact h0 (by rw [← bF,e]; rfl)
     | cons y ys=>
       have := h1 y ys.flatten (hys y List.mem_cons_self) e
       have := (hys y List.mem_cons_self).len
       omega
   · obtain ⟨h3,h4⟩ := h2 (by omega)
     obtain ⟨L,b,hL,hr⟩ := ih (s.size - n) (by omega) (s.extract n s.size) (acc ++ [s.extract 0 n]) (size_drop s n) (by omega) (by simp; omega)
     refine ⟨L,b,Ev.step st (Ev.bind hc (aV (by omega) (fun _ => rfl) (aE (by omega) (fun _ => rfl) (aE (by omega) (fun _ => rfl) (aE (by omega) (fun _ => rfl) (by rw [Int.toNat_natCast]; exact hL)))))),?_⟩
     have et : bl (s.extract 0 n) = (bl s).take n := by rw [fb]; rfl
     have es : bl s = (bl s).take n ++ (bl s).drop n := (List.take_append_drop n _).symm
     rcases hr with ⟨hb,zs,e1,e2,e3⟩ | ⟨hb,Dm,e2⟩
     · refine .inl ⟨hb,s.extract 0 n :: zs,by rw [e1]; simp,?_,?_⟩
       · rw [List.map_cons,et]; exact OT h4 e2
       · rw [List.map_cons,List.flatten_cons,← e3,fq,et]; exact es
     · refine .inr ⟨hb,Dm,fun ys hys e => ?_⟩
       cases ys with
       | nil => exact h0 (by rw [← bF,e]; rfl)
       | cons y ys=>
         have e4 := h1 y ys.flatten (hys y List.mem_cons_self) e
         refine e2 ys (fun x hx => hys x (List.mem_cons_of_mem _ hx)) ?_
         rw [fq,e,e4]; simp
theorem types (s : ByteArray) (hs : s.size ≤ 1000000000) : ∃ L b,Ev (fun k => cn.f k s) (L,b) ∧
 ((b = true ∧ s.size ≤ 255 ∧ (∀ x ∈ L.map bl,T 32 32 32 x) ∧ bl s = (L.map bl).flatten) ∨ (b = false ∧ L = [] ∧ (255 < s.size ∨ ∀ ys : List (List UInt8),(∀ x ∈ ys,T 32 32 32 x) → bl s ≠ ys.flatten))) := by
 by_cases h : (s.size : Int) > 255
 · exact ⟨[],false,aE h (fun _ => rfl) (Ev.now _),.inr ⟨rfl,rfl,.inl (by omega)⟩⟩
 · obtain ⟨L,b,hL,hr⟩ := UI s.size s [] rfl (by omega) (by simp; omega)
   refine ⟨L,b,aV h (fun _ => rfl) hL,?_⟩
   rcases hr with ⟨hb,zs,e1,e2,e3⟩ | ⟨hb,Dm,e2⟩
   · rw [List.nil_append] at e1; subst e1
     exact .inl ⟨hb,by omega,e2,e3⟩
   · exact .inr ⟨hb,Dm,.inr e2⟩
end Go.Proofs.YtkdebhgccpfkiaaGreatDoor.fg
namespace Go.Proofs.YtkdebhgccpfkiaaGreatDoor.au
open Go.RowKit Go.Proofs.aa.az Go.Proofs.aa.aM Go.Proofs.aa.aU
attribute [local go_sem] ba bh
set_option linter.unusedVariables false
set_option linter.unusedSimpArgs false
def utf8_ValidString.f (a0 : ByteArray) : Option Bool := if a0.size ≤ 9223372036854775807 then some (Lib.validD a0.data.toList) else none
theorem utf8_ValidString.calls (a0 : ByteArray) (r : Bool) (w : World) (hT : Lib.Utf8Tabs 3 4 w) (h : utf8_ValidString.f a0 = some r) :
 Calls Tryz.prog 41 #[.string a0] w fun e w' => e = .returned (.bool r) ∧ Below w.heap.size w w' := by
 unfold utf8_ValidString.f at h
 split at h
 case isTrue hs=>
  cases h
  exact Any.utf8_ValidString Tryz.Cc a0 w hs hT
 case isFalse => cases h
end Go.Proofs.YtkdebhgccpfkiaaGreatDoor.au
