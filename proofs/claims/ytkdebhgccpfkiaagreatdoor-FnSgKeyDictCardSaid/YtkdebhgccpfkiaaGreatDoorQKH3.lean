import Derived.Test.YtkdebhgccpfkiaaGreatDoorQKH2
set_option maxRecDepth 100000
set_option maxHeartbeats 16000000
namespace Go.Proofs.YtkdebhgccpfkiaaGreatDoor.au
open Go.RowKit Go.Proofs.aa.az Go.Proofs.aa.aM Go.Proofs.aa.aU
attribute [local go_sem] ba bh
set_option linter.unusedVariables false
set_option linter.unusedSimpArgs false
open Go.Proofs.YtkdebhgccpfkiaaGreatDoor.fD Go.Proofs.YtkdebhgccpfkiaaGreatDoor.fO Go.Proofs.YtkdebhgccpfkiaaGreatDoor.gw
def SmQ (w0 : World) (p q : Nat) (e : Ending) (w' : World) : Prop := ∃ (b : Bool) (vv' vb' : Int),e = .returned (.bool b) ∧ w'.heap[p]? = some (.cells #[.int .i64 vv'] 3 (0,0)) ∧ w'.heap[q]? = some (.cells #[.int .i64 vb'] 3 (0,0)) ∧ Below w0.heap.size w0 w'
theorem M' : ∀ (n : Nat) (L : List aT),(aJ L).length ≤ n → n ≤ 1000 → ∀ (A : Option Addr) (c : Nat) (w0 w : World) (deep : Int) (p q : Nat) (vv vb : Int),p ≠ q → w0.heap.size ≤ p → w0.heap.size ≤ q → Below w0.heap.size w0 w → w.heap[p]? = some (.cells #[.int .i64 vv] 3 (0,0)) → w.heap[q]? = some (.cells #[.int .i64 vb] 3 (0,0)) →
 Kd.C dF w0 A L.length L → L.length ≤ c →
 Calls Tryz.prog 43 #[.slice A L.length c,.int .i64 deep,.pointer (some ⟨p,0,none⟩),.pointer (some ⟨q,0,none⟩)] w (SmQ w0 p q) := by
 intro n
 induction n with
 | zero=>
   intro L hL hn A c w0 w deep p q vv vb hpq hp hq hb jN Og hC hc
   obtain rfl : L = [] := by
    have := eH L
    exact List.eq_nil_of_length_eq_zero (by omega)
   have HE := U.mk (And.intro jN (And.intro Og hb))
   clear hC hb jN Og
   by_cases hd : deep < 0
   · have d1 : decide (deep < 0) = true := decide_eq_true hd
     go_enter Tryz.func43,Tryz.ntmps43
     go_wp2_with fail
     refine wp_loop_rounds 1 ?_
     rw [rounds_succ]
     go_wp2
     go_ret
     exact ⟨true,vv,vb,rfl,HE.out.1,HE.out.2.1,HE.out.2.2⟩
   · have d1 : decide (deep < 0) = false := decide_eq_false hd
     go_enter Tryz.func43,Tryz.ntmps43
     go_wp2_with fail
     refine wp_loop_rounds 1 ?_
     rw [rounds_succ]
     go_wp2
     go_ret
     exact ⟨true,vv,vb,rfl,HE.out.1,HE.out.2.1,HE.out.2.2⟩
 | succ n ih=>
   intro L hL hn A c w0 w deep p q vv vb hpq hp hq hb jN Og hC hc
   obtain ⟨len,hlen⟩ : ∃ len,L.length = len := ⟨_,rfl⟩
   have Zq := eH L
   have HE := U.mk (And.intro jN (And.intro Og hb))
   have HC := U.mk hC
   have HL := U.mk (And.intro hlen (And.intro hL hc))
   have IH := U.mk ih
   have ahk : len ≤ 1000 := by omega
   rw [hlen] at hc ⊢
   clear hC hb jN Og ih hL hlen Zq
   have key : ∀ (a : Bool),(decide (deep < 0) = a) → (a = true → ¬ (0 : Int) < (len : Int)) → Calls Tryz.prog 43 #[.slice A len c,.int .i64 deep,.pointer (some ⟨p,0,none⟩),.pointer (some ⟨q,0,none⟩)] w (SmQ w0 p q) := by
    intro a d1 ZL
    have d2 : a = true → decide ((0 : Int) < (len : Int)) = false := fun h => decide_eq_false (ZL h)
    have go : (∀ W,Below w0.heap.size w0 W → True) := fun _ _ => trivial
    cases a with
    | true=>
      have d3 := d2 rfl
      obtain rfl : len = 0 := by have := ZL rfl; omega
      go_enter Tryz.func43,Tryz.ntmps43
      go_wp2_with fail
      refine wp_loop_rounds 1 ?_
      rw [rounds_succ]
      go_wp2
      go_ret
      exact ⟨true,vv,vb,rfl,HE.out.1,HE.out.2.1,HE.out.2.2⟩
    | false=>
      clear d2 ZL
      go_enter Tryz.func43,Tryz.ntmps43
      go_wp2_with fail
      go_loopg [19] len (fun kq ML wr => ∃ (i : Nat) (v1 v2 : Int),ML = .int .i64 (i : Int) ∧ i ≤ len ∧ U (kq = len - i ∧ wr.heap[p]? = some (.cells #[.int .i64 v1] 3 (0,0)) ∧ wr.heap[q]? = some (.cells #[.int .i64 v2] 3 (0,0)) ∧ Below w0.heap.size w0 wr))
      case atStart => exact ⟨0,vv,vb,rfl,by omega,⟨rfl,HE.out.1,HE.out.2.1,HE.out.2.2⟩⟩
      case round=>
       obtain ⟨i,v1,v2,rfl,hi,HI⟩ := hrel
       have fP := U.mk HI.out.1
       by_cases hlt : i < len
       · have hd : decide ((i : Int) < (len : Int)) = true := by simpa using hlt
         have iI : IntKind.i64.wrap ((i : Int) + 1) = ((i + 1 : Nat) : Int) := by rw [IntKind.wrap_i64]; omega
         have j4 : i < L.length := by rw [HL.out.1]; exact hlt
         obtain ⟨ad,A3,c4,rfl,q0,q1,q2,q3,lC,bN⟩ := EM HC.out (i : Int) (by omega) (by omega)
         have lB : aA L (i : Int) = L[i] := by
          unfold aA
          rw [Int.toNat_natCast,List.getD_eq_getElem?_getD,List.getElem?_eq_getElem j4]
          rfl
         obtain ⟨y,hy⟩ : ∃ y,L[i] = y := ⟨_,rfl⟩
         rw [lB,hy] at q2 q3 lC bN
         have hky : (aJ y.f3).length ≤ n := by
          have hm : y ∈ L := hy ▸ List.getElem_mem j4
          have h1 := jM hm (Nat.le_refl _)
          rw [nodes_eq] at h1
          simp only [List.length_cons] at h1
          have := HL.out.2.1
          omega
         have g2 := World.block_lt_of_cell? w0 _ q2
         replace q2 := ag HI.out.2.2.2 q2
         replace q3 := ag HI.out.2.2.2 q3
         obtain ⟨kn,KZ⟩ : ∃ kn,y.f3.length = kn := ⟨_,rfl⟩
         obtain ⟨sz,cN⟩ : ∃ sz,y.f2.size = sz := ⟨_,rfl⟩
         have HK := U.mk (And.intro KZ (And.intro hky (And.intro lC bN)))
         rw [KZ] at q3
         simp only [Int.toNat_natCast] at q2 q3 g2
         have g3 : ((ad.add (i * 4)).block) < w0.heap.size := g2
         have c1 : wr.cell? ⟨p,0,none⟩ = some (.int .i64 v1) := (cell_of_row wr p 0 _ 3 (0,0) HI.out.2.1).trans rfl
         have f1 : wr.frozen? ⟨p,0,none⟩ = false := frozen_of_row wr p 0 _ 3 HI.out.2.1
         obtain ⟨u1,hu1⟩ : ∃ u1,IntKind.i64.wrap (v1 + 1) = u1 := ⟨_,rfl⟩
         have Li : Below w0.heap.size w0 (wr.setCell ⟨p,0,none⟩ (.int .i64 u1)) := HI.out.2.2.2.setCell (by show w0.heap.size ≤ p; omega) _
         have Bw : (wr.setCell ⟨p,0,none⟩ (.int .i64 u1)).heap[p]? = some (.cells #[.int .i64 u1] 3 (0,0)) := heap_setCell_same wr p 0 _ 3 _ HI.out.2.1
         have Eo : (wr.setCell ⟨p,0,none⟩ (.int .i64 u1)).heap[q]? = some (.cells #[.int .i64 v2] 3 (0,0)) := (Below.heap_setCell wr ⟨p,0,none⟩ _ q (by show q ≠ p; omega)).trans HI.out.2.2.1
         have q2' : (wr.setCell ⟨p,0,none⟩ (.int .i64 u1)).cell? ⟨(ad.add (i * 4)).block,(ad.add (i * 4)).off + 2,none⟩ = some (.string y.f2) := by rw [World.cell?_setCell_other (h := by intro e; injection e with e; omega)]; exact q2
         have Ni : (wr.setCell ⟨p,0,none⟩ (.int .i64 u1)).cell? ⟨(ad.add (i * 4)).block,(ad.add (i * 4)).off + 3,none⟩ = some (.slice A3 kn c4) := by rw [World.cell?_setCell_other (h := by intro e; injection e with e; omega)]; exact q3
         obtain ⟨u2,Zd⟩ : ∃ u2,IntKind.i64.wrap (v2 + (sz : Int)) = u2 := ⟨_,rfl⟩
         have H1 := U.mk (And.intro Li (And.intro Bw (And.intro Eo (And.intro q2' Ni))))
         have G := U.mk g3
         clear Li Bw Eo q2' Ni q2 q3 lB hy j4 hky lC bN KZ q0 q1
         go_wp2_with fail
         generalize wr.setCell ⟨p,0,none⟩ (.int .i64 u1) = W1 at *
         have e1 : W1.drew.cell? ⟨q,0,none⟩ = some (.int .i64 v2) := (cell_of_row W1 q 0 _ 3 (0,0) H1.out.2.2.1).trans rfl
         have e2 : W1.drew.frozen? ⟨q,0,none⟩ = false := frozen_of_row W1 q 0 _ 3 H1.out.2.2.1
         have e3 : W1.drew.cell? ⟨(ad.add (i * 4)).block,(ad.add (i * 4)).off + 2,none⟩ = some (.string y.f2) := H1.out.2.2.2.1
         have e1' : W1.cell? ⟨q,0,none⟩ = some (.int .i64 v2) := e1
         have e2' : W1.frozen? ⟨q,0,none⟩ = false := e2
         have e3' := H1.out.2.2.2.1
         have eo : Below w0.heap.size w0 (W1.setCell ⟨q,0,none⟩ (.int .i64 u2)).drew := ak (H1.out.1.setCell (by show w0.heap.size ≤ q; omega) _)
         have I6 : (W1.setCell ⟨q,0,none⟩ (.int .i64 u2)).drew.heap[q]? = some (.cells #[.int .i64 u2] 3 (0,0)) := heap_setCell_same W1 q 0 _ 3 _ H1.out.2.2.1
         have Jb : (W1.setCell ⟨q,0,none⟩ (.int .i64 u2)).drew.heap[p]? = some (.cells #[.int .i64 u1] 3 (0,0)) := (Below.heap_setCell W1 ⟨q,0,none⟩ _ p (by show p ≠ q; omega)).trans H1.out.2.1
         have Ni : (W1.setCell ⟨q,0,none⟩ (.int .i64 u2)).drew.cell? ⟨(ad.add (i * 4)).block,(ad.add (i * 4)).off + 3,none⟩ = some (.slice A3 kn c4) := by show (W1.setCell ⟨q,0,none⟩ (.int .i64 u2)).cell? _ = _; rw [World.cell?_setCell_other (h := by intro e; injection e with e; omega)]; exact H1.out.2.2.2.2
         have H2 := U.mk (And.intro eo (And.intro Jb (And.intro I6 Ni)))
         clear eo Jb I6 Ni c1 f1
         go_region
         all_goals
          generalize (W1.setCell ⟨q,0,none⟩ (.int .i64 u2)).drew = W2 at *
          have k1 : W2.cell? ⟨p,0,none⟩ = some (.int .i64 u1) := (cell_of_row W2 p 0 _ 3 (0,0) H2.out.2.1).trans rfl
          have k2 : W2.cell? ⟨q,0,none⟩ = some (.int .i64 u2) := (cell_of_row W2 q 0 _ 3 (0,0) H2.out.2.2.1).trans rfl
          have k3 := H2.out.2.2.2
          clear e1 e2 e3 e1' e2' e3'
          by_cases b1 : 400 < u1
          · have d1 : decide ((400 : Int) < u1) = true := decide_eq_true b1
            go_wp2_with fail
            go_ret
            exact ⟨false,u1,u2,rfl,H2.out.2.1,H2.out.2.2.1,H2.out.1⟩
          · have d1 : decide ((400 : Int) < u1) = false := decide_eq_false b1
            by_cases b2 : 65536 < u2
            · have d2 : decide ((65536 : Int) < u2) = true := decide_eq_true b2
              go_wp2_with fail
              go_ret
              exact ⟨false,u1,u2,rfl,H2.out.2.1,H2.out.2.2.1,H2.out.1⟩
            · have d2 : decide ((65536 : Int) < u2) = false := decide_eq_false b2
              obtain ⟨dp,kQ⟩ : ∃ dp,IntKind.i64.wrap (deep - 1) = dp := ⟨_,rfl⟩
              have Up := U.mk (IH.out y.f3 HK.out.2.1 (by omega) A3 c4 w0 W2 dp p q u1 u2 hpq hp hq H2.out.1 H2.out.2.1 H2.out.2.2.1 HK.out.2.2.2 HK.out.2.2.1)
              rw [HK.out.1] at Up
              go_wp2_with fail
              refine Up.out.mono ?_
              rintro e1 w3 ⟨b,u1', u2', rfl,Tm,Oo,fY⟩
              have H3 := U.mk (And.intro Tm (And.intro Oo fY))
              clear Tm Oo fY
              cases b with
              | false=>
                go_wp2_with fail
                go_ret
                exact ⟨false,u1', u2', rfl,H3.out.1,H3.out.2.1,H3.out.2.2⟩
              | true=>
                go_wp2_with fail
                go_roundg (len - (i + 1))
                case measure => have := fP.out; omega
                case rel => exact ⟨i + 1,u1', u2', by first | rfl | simp,hlt,⟨rfl,H3.out.1,H3.out.2.1,H3.out.2.2⟩⟩
       · have hd : decide ((i : Int) < (len : Int)) = false := by simpa using hlt
         go_wp2_with fail
         go_ret
         exact ⟨true,v1,v2,rfl,HI.out.2.1,HI.out.2.2.1,HI.out.2.2.2⟩
   by_cases h1 : deep < 0
   · by_cases h2 : (0 : Int) < (len : Int)
     · have d1 : decide (deep < 0) = true := decide_eq_true h1
       have d2 : decide ((0 : Int) < (len : Int)) = true := decide_eq_true h2
       go_enter Tryz.func43,Tryz.ntmps43
       go_wp2_with fail
       go_ret
       exact ⟨false,vv,vb,rfl,HE.out.1,HE.out.2.1,HE.out.2.2⟩
     · exact key true (decide_eq_true h1) (fun _ => h2)
   · exact key false (decide_eq_false h1) (fun h => by cases h)
end Go.Proofs.YtkdebhgccpfkiaaGreatDoor.au
namespace Go.Proofs.YtkdebhgccpfkiaaGreatDoor.au
open Go.RowKit Go.Proofs.aa.az Go.Proofs.aa.aM Go.Proofs.aa.aU
attribute [local go_sem] ba bh
set_option linter.unusedVariables false
set_option linter.unusedSimpArgs false
namespace Pa
open Go.Proofs.YtkdebhgccpfkiaaGreatDoor.fD
theorem dN {c : UInt8} (d : UInt8) : (c.toNat : Int) = (d.toNat : Int) ↔ c = d := by
 constructor
 · intro h; exact UInt8.toNat_inj.mp (by exact_mod_cast h)
 · intro h; rw [h]
theorem lP {s : ByteArray} {p : Nat} {c : UInt8} {r : List UInt8} (h : (bl s).drop p = c :: r) : bt s (p : Int) = (c.toNat : Int) := by
 rw [lO]
 have e : (bl s).getD p 0 = ((bl s).drop p).getD 0 0 := by simp [List.getD_eq_getElem?_getD]
 rw [e,h]; rfl
theorem FA {s : ByteArray} {p : Nat} {c : UInt8} {r : List UInt8} (h : (bl s).drop p = c :: r) : p + r.length + 1 = s.size := by
 have := congrArg List.length h
 rw [List.length_drop,bF] at this
 simp only [List.length_cons] at this; omega
theorem DG {s : ByteArray} {p : Nat} (h : (bl s).drop p = []) : ¬ p < s.size := by
 have := congrArg List.length h
 rw [List.length_drop,bF] at this
 simp at this; omega
theorem Bh {s : ByteArray} {p : Nat} {c : UInt8} {r : List UInt8} (h : (bl s).drop p = c :: r) : (bl s).drop (p + 1) = r := by
 rw [← List.drop_drop,h]; rfl
theorem H6 (i : Nat) (h : i ≤ 1000000) : wrap64 ((i : Int) + 1) = ((i + 1 : Nat) : Int) := fK (x := (i : Int) + 1) (by omega) (by omega)
def Mem (c : Int) : Prop := (48 ≤ c ∧ c ≤ 57) ∨ (65 ≤ c ∧ c ≤ 90) ∨ (97 ≤ c ∧ c ≤ 122) ∨ c = 95
instance (c : Int) : Decidable (Mem c) := by unfold Mem; exact inferInstance
theorem Dy (c : Int) : eh.f c = some (decide (Mem c)) := by
 unfold eh.f
 repeat' split
 all_goals (congr 1; first | (symm; exact decide_eq_true (by unfold Mem; omega)) | (rw [Bool.eq_iff_iff,beq_iff_eq,decide_eq_true_iff]; unfold Mem; omega))
theorem P2 : ∀ n : Fin 256,gp.f (n.val : Int) = some (decide (Mem (n.val : Int))) := by decide +kernel
theorem Xk (c : UInt8) : gp.f (c.toNat : Int) = some (decide (Mem (c.toNat : Int))) := P2 ⟨c.toNat,c.toNat_lt⟩
def mem (c : UInt8) : Bool := decide (Mem (c.toNat : Int))
def sp : List UInt8 → List (List UInt8)
 | [] => [[]]
 | c :: r => if c = 47 then [] :: sp r else match sp r with
   | h :: T => (c :: h) :: T
   | [] => [[c]]
theorem SX : ∀ l,sp l ≠ []
 | [] => by simp [sp]
 | c :: r => by
   rw [sp]
   split
   · simp
   · split <;> simp
theorem MY : ∀ l : List UInt8,47 ∉ l → sp l = [l]
 | [],_ => rfl
 | c :: r,h => by
   rw [sp,if_neg (fun q => h (by rw [q]; exact List.mem_cons_self)),MY r (fun q => h (List.mem_cons_of_mem _ q))]
theorem MZ (post : List UInt8) : ∀ pre : List UInt8,47 ∉ pre → sp (pre ++ 47 :: post) = pre :: sp post
 | [],_ => by rw [List.nil_append,sp,if_pos rfl]
 | c :: r,h => by
   rw [List.cons_append,sp,if_neg (fun q => h (by rw [q]; exact List.mem_cons_self)),MZ post r (fun q => h (List.mem_cons_of_mem _ q))]
def gd (L : List (List UInt8)) : Bool := L.all fun p => !p.isEmpty && p.all mem
def lH : Bool → List UInt8 → Bool
 | p,[] => !p
 | p,c :: r => if c = 47 then !p && lH true r else mem c && lH false r
def scan : Bool → List UInt8 → Bool
 | _,[] => true
 | p,c :: r => if c = 47 then !p && scan true r else mem c && scan false r
def Cn (p : Bool) (l : List UInt8) : Bool := match sp l with
 | h :: T => (!p || !h.isEmpty) && h.all mem && gd T
 | [] => true
theorem EC (l : List UInt8) : Cn true l = gd (sp l) := by
 unfold Cn
 cases h : sp l with
 | nil => exact absurd h (SX l)
 | cons a T => simp [gd]
theorem z8 : ∀ (l : List UInt8) (p : Bool),Cn p l = lH p l
 | [],p => by simp [Cn,sp,lH,gd]
 | c :: r,p => by
   by_cases h : c = 47
   · rw [lH,if_pos h,← z8 r true,EC]
     unfold Cn
     rw [sp,if_pos h]
     simp
   · rw [lH,if_neg h,← z8 r false]
     unfold Cn
     rw [sp,if_neg h]
     cases hs : sp r with
     | nil => exact absurd hs (SX r)
     | cons a T => simp [Bool.and_assoc]
theorem Fv : ∀ (l : List UInt8) (p : Bool),l ≠ [] → (∀ q,l ≠ q ++ [47]) → lH p l = scan p l
 | [],_,h,_ => absurd rfl h
 | [c],p,_,h => by
   have hc : c ≠ 47 := fun q => h [] (by rw [q]; rfl)
   simp [lH,scan,hc]
 | c :: d :: r,p,_,h => by
   have h2 : ∀ q,d :: r ≠ q ++ [47] := fun q e => h (c :: q) (by rw [e]; rfl)
   rw [lH,scan,Fv (d :: r) true (by simp) h2,Fv (d :: r) false (by simp) h2]
theorem idx (s : ByteArray) (hs : s.size ≤ 100000) (d : Nat) : ∀ i : Nat,s.size - i = d → i ≤ s.size → ∃ r : Int,Ev (fun k => bR.l0 k s ⟨#[47]⟩ (i : Int)) r ∧
 ((r = -1 ∧ 47 ∉ (bl s).drop i) ∨ ∃ pre post,(bl s).drop i = pre ++ 47 :: post ∧ 47 ∉ pre ∧ r = ((i + pre.length : Nat) : Int)) := by
 induction d using Nat.strongRecOn with
 | _ d ih=>
 intro i hd hi
 have e1 : (((⟨#[47]⟩ : ByteArray).size : Nat) : Int) = 1 := rfl
 have e5 : (⟨#[47]⟩ : ByteArray).toList = [47] := by rw [ch]; rfl
 cases hc : (bl s).drop i with
 | nil=>
   have KR := DG hc
   refine ⟨-1,Ev.step (f := fun _ => some (-1)) (fun k => ?_) (Ev.now _),.inl ⟨rfl,by simp⟩⟩
   simp only [bR.l0,e1]
   rw [H6 i (by omega),if_neg (by omega)]
 | cons c r=>
   have hlt := FA hc
   have hw : (s.extract i (i + 1)).toList = [47] ↔ c = 47 := by
    rw [Qq s i (by omega) 47,lP hc]; exact dN 47
   by_cases h : c = 47
   · subst h
     refine ⟨(i : Int),Ev.step (f := fun _ => some (i : Int)) (fun k => ?_) (Ev.now _),.inr ⟨[],r,rfl,by simp,by simp⟩⟩
     simp only [bR.l0,e1]
     rw [H6 i (by omega),if_pos (by omega),if_pos (by omega),if_pos (by omega),Int.toNat_natCast,Int.toNat_natCast,e5,if_pos (hw.mpr rfl)]
   · obtain ⟨x,hx,xw⟩ := ih (s.size - (i + 1)) (by omega) (i + 1) rfl (by omega)
     refine ⟨x,Ev.step (f := fun k => bR.l0 k s ⟨#[47]⟩ ((i + 1 : Nat) : Int)) (fun k => ?_) hx,?_⟩
     · simp only [bR.l0,e1]
       rw [H6 i (by omega),if_pos (by omega),if_pos (by omega),if_pos (by omega),Int.toNat_natCast,Int.toNat_natCast,e5,if_neg (fun q => h (hw.mp q))]
     · rw [Bh hc] at xw
       rcases xw with ⟨h1,h2⟩ | ⟨pre,post,h1,h2,h3⟩
       · refine .inl ⟨h1,fun q => ?_⟩
         rcases List.mem_cons.mp q with q | q
         · exact h q.symm
         · exact h2 q
       · refine .inr ⟨c :: pre,post,by rw [h1]; rfl,fun q => ?_,by rw [h3]; simp only [List.length_cons]; omega⟩
         rcases List.mem_cons.mp q with q | q
         · exact h q.symm
         · exact h2 q
theorem split (m : Nat) : ∀ (t : ByteArray) (acc : List ByteArray),t.size = m → t.size ≤ 100000 → acc.length + m ≤ 1000000 → ∃ L : List ByteArray,Ev (fun k => bQ.l1 k t ⟨#[47]⟩ acc) (acc ++ L) ∧ L.map bl = sp (bl t) ∧ L.length ≤ m + 1 := by
 induction m using Nat.strongRecOn with
 | _ m ih=>
 intro t acc hm hs ha
 obtain ⟨r,hr,jW⟩ := idx t hs t.size 0 (by omega) (by omega)
 rw [List.drop_zero] at jW
 have e1 : (((⟨#[47]⟩ : ByteArray).size : Nat) : Int) = 1 := rfl
 have st : ∀ k,bQ.l1 (k + 1) t ⟨#[47]⟩ acc = (bR.f k t ⟨#[47]⟩).bind fun t107 => (if t107 < 0 then (if acc.length < 8796093022208 then (some (acc ++ [t])) else (none)) else (if 0 ≤ t107 then (if t107 ≤ (t.size : Int) then (if acc.length < 8796093022208 then (if 0 ≤ (wrap64 (t107 + 1)) then (if (wrap64 (t107 + 1)) ≤ (t.size : Int) then (bQ.l1 k (t.extract ((wrap64 (t107 + 1)) : Int).toNat t.size) ⟨#[47]⟩ (acc ++ [t.extract 0 (t107 : Int).toNat])) else (none)) else (none)) else (none)) else (none)) else (none))) := by
  intro k; simp only [bQ.l1,e1]
 rcases jW with ⟨h1,h2⟩ | ⟨pre,post,h1,h2,h3⟩
 · subst h1
   refine ⟨[t],Ev.step st (Ev.bind (g := fun k => bR.f k t ⟨#[47]⟩) hr (aE (by omega) (fun _ => rfl) (aE (by omega) (fun _ => rfl) (Ev.now _)))),?_,by simp⟩
   rw [MY _ h2]; rfl
 · have cN : t.size = pre.length + 1 + post.length := by rw [← bF,h1]; simp; omega
   rw [Nat.zero_add] at h3
   have hb2 : bl (t.extract (pre.length + 1) t.size) = post := by
    rw [fb,h1,List.take_of_length_le (by simp; omega)]
    simp
   have hz : (t.extract (pre.length + 1) t.size).size = post.length := by rw [← bF,hb2]
   obtain ⟨L,hL,ZS,Tw⟩ := ih post.length (by omega) (t.extract (pre.length + 1) t.size) (acc ++ [t.extract 0 pre.length]) hz (by omega) (by simp; omega)
   refine ⟨t.extract 0 pre.length :: L,Ev.step st (Ev.bind (g := fun k => bR.f k t ⟨#[47]⟩) hr ?_),?_,by simp only [List.length_cons]; omega⟩
   · subst h3
     rw [H6 pre.length (by omega)]
     refine aV (by omega) (fun _ => rfl) (aE (by omega) (fun _ => rfl) (aE (by omega) (fun _ => rfl) (aE (by omega) (fun _ => rfl) (aE (by omega) (fun _ => rfl) (aE (by omega) (fun _ => rfl) ?_)))))
     rw [Int.toNat_natCast,Int.toNat_natCast]
     have e : acc ++ t.extract 0 pre.length :: L = (acc ++ [t.extract 0 pre.length]) ++ L := by simp
     rw [e]; exact hL
   · rw [List.map_cons,ZS,hb2,h1,MZ _ _ h2,fb,h1]
     simp
theorem acH (L : List ByteArray) (m q : Int) (v : ByteArray) (d : Nat) : ∀ pos : Nat,v.size - pos = d → pos ≤ v.size →
 (((bl v).drop pos).all mem = true → ∀ r,Ev (fun k => av.l0 k L m (wrap64 (q + 1))) r → Ev (fun k => av.l1 k L m q v (pos : Int)) r) ∧
 (((bl v).drop pos).all mem = false → Ev (fun k => av.l1 k L m q v (pos : Int)) false) := by
 induction d using Nat.strongRecOn with
 | _ d ih=>
 intro pos hd hp
 cases hc : (bl v).drop pos with
 | nil=>
   have KR := DG hc
   refine ⟨fun _ r hr => Ev.step (fun k => ?_) hr,fun h => by simp at h⟩
   simp only [av.l1,Int.toNat_natCast]; rw [if_neg KR]
 | cons c z=>
   have hlt := FA hc
   have hb := lP hc
   by_cases ae4 : bt v pos < 128
   · obtain ⟨h1,h2⟩ := O6 v pos (by omega) ae4
     obtain ⟨y,n⟩ := ih (v.size - (pos + 1)) (by omega) (pos + 1) rfl (by omega)
     rw [Bh hc] at y n
     by_cases hm : mem c = true
     · have hM : decide (Mem (bt v pos)) = true := by rw [hb]; exact hm
       have st : ∀ k,av.l1 (k + 1) L m q v (pos : Int) = av.l1 k L m q v ((pos + 1 : Nat) : Int) := by
        intro k
        simp only [av.l1,Int.toNat_natCast]
        rw [if_pos (by omega),h1,h2,Dy,hM]; rfl
       rw [List.all_cons,hm,Bool.true_and]
       exact ⟨fun h r hr => Ev.step st (y h r hr),fun h => Ev.step st (n h)⟩
     · have hM : decide (Mem (bt v pos)) = false := by rw [hb]; exact Bool.eq_false_iff.mpr hm
       refine ⟨fun h => absurd h (by rw [List.all_cons,Bool.eq_false_iff.mpr hm]; simp),fun _ => Ev.step (f := fun _ => some false) (fun k => ?_) (Ev.now _)⟩
       simp only [av.l1,Int.toNat_natCast]
       rw [if_pos (by omega),h1,Dy,hM]; rfl
   · obtain ⟨h1,h2⟩ := aaT v pos (by omega) (by omega)
     have hM : ¬ Mem ((Utf8.decode v pos).1 : Int) := by unfold Mem; omega
     have hm : mem c = false := decide_eq_false (by unfold Mem; rw [← hb]; omega)
     refine ⟨fun h => absurd h (by rw [List.all_cons,hm]; simp),fun _ => Ev.step (f := fun _ => some false) (fun k => ?_) (Ev.now _)⟩
     simp only [av.l1,Int.toNat_natCast]
     rw [if_pos (by omega),Dy,decide_eq_false hM]; rfl
theorem acJ {L : List ByteArray} {i : Nat} {z : ByteArray} {r : List ByteArray} (h : L.drop i = z :: r) : gI ByteArray.empty L (i : Int) = z := by
 unfold gI
 rw [Int.toNat_natCast]
 have e : L.getD i ByteArray.empty = (L.drop i).getD 0 ByteArray.empty := by simp [List.getD_eq_getElem?_getD]
 rw [e,h]; rfl
theorem parts (L : List ByteArray) (hL : L.length ≤ 1000000) (d : Nat) : ∀ i : Nat,L.length - i = d → i ≤ L.length → Ev (fun k => av.l0 k L (L.length : Int) (i : Int)) (gd ((L.drop i).map bl)) := by
 induction d using Nat.strongRecOn with
 | _ d ih=>
 intro i hd hi
 cases hc : L.drop i with
 | nil=>
   have KR : ¬ i < L.length := by
    have := congrArg List.length hc
    rw [List.length_drop] at this
    simp at this; omega
   refine Ev.step (f := fun _ => some true) (fun k => ?_) (Ev.now _)
   simp only [av.l0]; rw [if_neg (by omega)]
 | cons z r=>
   have hlt : i < L.length := by
    have := congrArg List.length hc
    rw [List.length_drop] at this
    simp at this; omega
   have zG : L.drop (i + 1) = r := by rw [← List.drop_drop,hc]; rfl
   have h2 := ih (L.length - (i + 1)) (by omega) (i + 1) rfl (by omega)
   rw [zG] at h2
   have st : ∀ k,av.l0 (k + 1) L (L.length : Int) (i : Int) = if (z.size : Int) = 0 then some false else av.l1 k L (L.length : Int) (i : Int) z 0 := by
    intro k
    simp only [av.l0]
    rw [if_pos (by omega),if_pos (by omega),if_pos (by omega),acJ hc]
   rw [List.map_cons]
   by_cases hz : z.size = 0
   · have e : gd (bl z :: r.map bl) = false := by
      have : bl z = [] := List.eq_nil_of_length_eq_zero hz
      simp [gd,this]
     rw [e]
     exact Ev.step st (aE (by omega) (fun _ => rfl) (Ev.now _))
   · obtain ⟨y,n⟩ := acH L (L.length : Int) (i : Int) z z.size 0 (by omega) (by omega)
     rw [List.drop_zero] at y n
     have hne : (bl z).isEmpty = false := by
      cases h : bl z with
      | nil => exact absurd (by rw [← bF,h]; rfl) hz
      | cons a b => rfl
     refine Ev.step st (aV (by omega) (fun _ => rfl) ?_)
     cases ha : (bl z).all mem with
     | true=>
       have e : gd (bl z :: r.map bl) = gd (r.map bl) := by simp only [gd,List.all_cons,hne,ha]; rfl
       rw [e]
       refine y ha _ ?_
       rw [H6 i (by omega)]; exact h2
     | false=>
       have e : gd (bl z :: r.map bl) = false := by simp only [gd,List.all_cons,hne,ha]; rfl
       rw [e]
       exact n ha
theorem bytes (s : ByteArray) (hs : s.size ≤ 100000) (d : Nat) : ∀ i : Nat,s.size - i = d → 1 ≤ i → i ≤ s.size → Ev (fun k => ax.l0 k s (i : Int)) (scan (decide (bt s ((i - 1 : Nat) : Int) = 47)) ((bl s).drop i)) := by
 induction d using Nat.strongRecOn with
 | _ d ih=>
 intro i hd h1 hi
 cases hc : (bl s).drop i with
 | nil=>
   have KR := DG hc
   refine Ev.step (f := fun _ => some true) (fun k => ?_) (Ev.now _)
   simp only [ax.l0]; rw [if_neg (by omega)]
 | cons c r=>
   have hlt := FA hc
   have h2 := ih (s.size - (i + 1)) (by omega) (i + 1) rfl (by omega) (by omega)
   rw [Bh hc,Nat.add_sub_cancel,lP hc] at h2
   have wm : wrap64 ((i : Int) - 1) = ((i - 1 : Nat) : Int) := by rw [fK (x := (i : Int) - 1) (by omega) (by omega)]; omega
   have st : ∀ k,ax.l0 (k + 1) s (i : Int) = if (c.toNat : Int) = 47 then (if bt s ((i - 1 : Nat) : Int) = 47 then some false else ax.l0 k s ((i + 1 : Nat) : Int)) else (if mem c = true then ax.l0 k s ((i + 1 : Nat) : Int) else some false) := by
    intro k
    simp only [ax.l0]
    rw [if_pos (by omega),if_pos (by omega),lP hc,wm,H6 i (by omega),Xk]
    by_cases h : (c.toNat : Int) = 47
    · rw [if_pos h,if_pos h,if_pos (by omega),if_pos (by omega)]
    · rw [if_neg h,if_neg h]; rfl
   clear wm
   refine Ev.step st ?_
   by_cases h : c = 47
   · rw [scan,if_pos h]
     refine aE (show (c.toNat : Int) = 47 from (dN 47).mpr h) (fun _ => rfl) ?_
     have e : decide ((c.toNat : Int) = 47) = true := decide_eq_true ((dN 47).mpr h)
     rw [e] at h2
     by_cases hp : bt s ((i - 1 : Nat) : Int) = 47
     · rw [decide_eq_true hp]; exact aE hp (fun _ => rfl) (Ev.now _)
     · rw [decide_eq_false hp]; exact aV hp (fun _ => rfl) h2
   · rw [scan,if_neg h]
     refine aV (show ¬ (c.toNat : Int) = 47 from fun q => h ((dN 47).mp q)) (fun _ => rfl) ?_
     have e : decide ((c.toNat : Int) = 47) = false := decide_eq_false (fun q => h ((dN 47).mp q))
     rw [e] at h2
     cases hm : mem c with
     | true => exact aE rfl (fun _ => rfl) h2
     | false => exact aV (show ¬ (false = true) by decide) (fun _ => rfl) (Ev.now _)
theorem both (s : ByteArray) (hs : s.size ≤ 100000) : ∃ b,Ev (fun k => av.f k s) b ∧ Ev (fun k => ax.f k s) b := by
 have Y2 : Ev (fun k => ax.j0 k s true) false := Ev.step (f := fun _ => some false) (fun k => by simp only [ax.j0]; exact if_pos trivial) (Ev.now _)
 have i0t : Ev (fun k => av.j0 k s true) false := Ev.step (f := fun _ => some false) (fun k => by simp only [av.j0]; exact if_pos trivial) (Ev.now _)
 unfold av.f ax.f
 cases hb : bl s with
 | nil=>
   have h0 : s.size = 0 := by rw [← bF,hb]; rfl
   refine ⟨false,aE (by omega) (fun _ => rfl) (Ev.now _),aV ?_ (fun _ => rfl) (aE ((ji s).mpr h0) (fun _ => rfl) Y2)⟩
   rw [ch,hb]; simp
 | cons c r=>
   have cN : s.size = r.length + 1 := by rw [← bF,hb]; simp
   have hc0 : bt s 0 = (c.toNat : Int) := lP (s := s) (p := 0) (r := r) (by rw [List.drop_zero]; exact hb)
   have hne : ¬ s.toList = ([] : List UInt8) := fun q => by have := (ji s).mp q; omega
   have wl : wrap64 ((s.size : Int) - 1) = ((s.size - 1 : Nat) : Int) := by rw [fK (x := (s.size : Int) - 1) (by omega) (by omega)]; omega
   rw [wl]
   clear wl
   by_cases hc : c = 47
   · subst hc
     have xG : bt s 0 = 47 := hc0
     by_cases hr : r = []
     · subst hr
       have vx : s.size = 1 := cN
       have hl : s.toList = ([47] : List UInt8) := by rw [ch,hb]
       refine ⟨true,?_,aE hl (fun _ => rfl) (Ev.now _)⟩
       have zZ : bt s ((s.size - 1 : Nat) : Int) = 47 := by rw [vx]; exact xG
       refine aV (by omega) (fun _ => rfl) (aE (by omega) (fun _ => rfl) (aE xG (fun _ => rfl) (aE (by omega) (fun _ => rfl) (aE (by omega) (fun _ => rfl) (aE zZ (fun _ => rfl) ?_)))))
       have e : ((s.size : Int) != 1) = false := by rw [vx]; rfl
       rw [e]
       refine Ev.step (f := fun _ => some true) (fun k => ?_) (Ev.now _)
       simp only [av.j0]
       rw [if_neg (by decide),if_pos hl]
     · have hl : ¬ s.toList = ([47] : List UInt8) := by
        rw [ch,hb]; intro q; exact hr (List.cons.inj q).2
       have hrl : 0 < r.length := List.length_pos_iff.mpr hr
       have e : ((s.size : Int) != 1) = true := by rw [bne_iff_ne]; omega
       by_cases zZ : bt s ((s.size - 1 : Nat) : Int) = 47
       · refine ⟨false,aV (by omega) (fun _ => rfl) (aE (by omega) (fun _ => rfl) (aE xG (fun _ => rfl) (aE (by omega) (fun _ => rfl) (aE (by omega) (fun _ => rfl) (aE zZ (fun _ => rfl) ?_))))),aV hl (fun _ => rfl) (aV hne (fun _ => rfl) (aE (by omega) (fun _ => rfl) (aE xG (fun _ => rfl) (aE (by omega) (fun _ => rfl) (aE (by omega) (fun _ => rfl) ?_)))))⟩
         · rw [e]; exact i0t
         · rw [show (bt s ((s.size - 1 : Nat) : Int) == 47) = true from beq_iff_eq.mpr zZ]; exact Y2
       · have hb1 : bl (s.extract 1 s.size) = r := by
          rw [fb,hb]
          exact List.take_of_length_le (by rw [cN]; simp)
         have vx : (s.extract 1 s.size).size = r.length := by rw [← bF,hb1]
         obtain ⟨L,hL,ZS,Tw⟩ := split r.length (s.extract 1 s.size) [] vx (by omega) (by simp; omega)
         rw [List.nil_append] at hL
         have hP := parts L (by omega) L.length 0 (by omega) (by omega)
         rw [List.drop_zero,ZS,hb1] at hP
         have hS := bytes s hs (s.size - 1) 1 rfl (by omega) (by omega)
         have dt : (bl s).drop 1 = r := by rw [hb]; rfl
         have e0 : decide (bt s ((1 - 1 : Nat) : Int) = 47) = true := decide_eq_true xG
         rw [dt,e0] at hS
         have Jo : ∀ q,r ≠ q ++ [47] := by
          intro q e2
          refine zZ ?_
          rw [lO,hb,e2]
          have : s.size - 1 = q.length + 1 := by rw [cN,e2]; simp
          rw [this]; simp
         have hgs : gd (sp r) = scan true r := by rw [← EC,z8,Fv r true hr Jo]
         rw [hgs] at hP
         refine ⟨scan true r,aV (by omega) (fun _ => rfl) (aE (by omega) (fun _ => rfl) (aE xG (fun _ => rfl) (aE (by omega) (fun _ => rfl) (aE (by omega) (fun _ => rfl) (aV zZ (fun _ => rfl) ?_))))),aV hl (fun _ => rfl) (aV hne (fun _ => rfl) (aE (by omega) (fun _ => rfl) (aE xG (fun _ => rfl) (aE (by omega) (fun _ => rfl) (aE (by omega) (fun _ => rfl) ?_)))))⟩
         · refine Ev.step (f := fun k => (bQ.f k (s.extract 1 s.size) (⟨#[47]⟩ : ByteArray)).bind fun t114 => (av.l0 k t114 (t114.length : Int) 0)) (fun k => ?_) (Ev.bind (a := L) ?_ hP)
           · simp only [av.j0]
             rw [if_neg (by decide),if_neg hl,if_pos (by omega)]
           · exact aV (by decide) (fun _ => rfl) hL
         · rw [show (bt s ((s.size - 1 : Nat) : Int) == 47) = false from beq_eq_false_iff_ne.mpr zZ]
           refine Ev.step (fun k => ?_) hS
           simp only [ax.j0]
           rw [if_neg (by decide)]; rfl
   · have xG : ¬ bt s 0 = 47 := by rw [hc0]; exact fun q => hc ((dN 47).mp q)
     refine ⟨false,aV (by omega) (fun _ => rfl) (aE (by omega) (fun _ => rfl) (aV xG (fun _ => rfl) (Ev.now _))),aV ?_ (fun _ => rfl) (aV hne (fun _ => rfl) (aE (by omega) (fun _ => rfl) (aV xG (fun _ => rfl) Y2)))⟩
     rw [ch,hb]
     intro q; exact hc (List.cons.inj q).1
theorem TB {α : Type} {g : Nat → Option α} (hm : ∀ k,dw (g k) (g (k + 1))) {k : Nat} {r q : α} (h : g k = some r) (e : Ev g q) : r = q := by
 obtain ⟨K,hK⟩ := e
 have up : ∀ m,g (k + m) = some r := by
  intro m
  induction m with
  | zero => exact h
  | succ m ih => exact hm _ _ ih
 have h1 := up K
 rw [hK (k + K) (by omega)] at h1
 exact (Option.some.inj h1).symm
theorem Du : ∀ (l : List UInt8) (p : Bool),scan p l = true → ∀ c ∈ l,mem c = true ∨ c = 47
 | [],_,_,c,h => by cases h
 | d :: r,p,h,c,hc => by
   rw [scan] at h
   by_cases hd : d = 47
   · rw [if_pos hd,Bool.and_eq_true] at h
     rcases List.mem_cons.mp hc with rfl | hc
     · exact .inr hd
     · exact Du r true h.2 c hc
   · rw [if_neg hd,Bool.and_eq_true] at h
     rcases List.mem_cons.mp hc with rfl | hc
     · exact .inl h.1
     · exact Du r false h.2 c hc
theorem UN : ∀ n : Fin 256,(mem (UInt8.ofNat n.val) = true ∨ UInt8.ofNat n.val = 47) → (UInt8.ofNat n.val).toNat < 128 ∧ UInt8.ofNat n.val ≠ 0 := by decide +kernel
theorem asc (c : UInt8) (h : mem c = true ∨ c = 47) : c.toNat < 128 ∧ c ≠ 0 := by
 have := UN ⟨c.toNat,c.toNat_lt⟩
 simp only [UInt8.ofNat_toNat] at this
 exact this h
theorem Fy : ∀ l : List UInt8,(∀ c ∈ l,c ≠ 0) → Lib.indexByte l 0 = -1
 | [],_ => rfl
 | c :: r,h => by
   have ih := Fy r (fun d hd => h d (List.mem_cons_of_mem _ hd))
   have hc : (c == 0) = false := beq_eq_false_iff_ne.mpr (h c List.mem_cons_self)
   rw [Lib.indexByte,hc,ih]; rfl
theorem Qi (s : ByteArray) (hs : s.size ≤ 100000) (k : Nat) (h : ax.f k s = some true) : ∀ c ∈ bl s,mem c = true ∨ c = 47 := by
 unfold ax.f at h
 cases hb : bl s with
 | nil => intro c hc; cases hc
 | cons c r=>
   have cN : s.size = r.length + 1 := by rw [← bF,hb]; simp
   have hc0 : bt s 0 = (c.toNat : Int) := lP (s := s) (p := 0) (r := r) (by rw [List.drop_zero]; exact hb)
   have hne : ¬ s.toList = ([] : List UInt8) := fun q => by have := (ji s).mp q; omega
   have jt : ∀ k,ax.j0 k s true = some true → False := fun k h => by
    cases k with
    | zero => simp [ax.j0] at h
    | succ k => simp only [ax.j0] at h; rw [if_pos trivial] at h; cases h
   by_cases xG : s.toList = ([47] : List UInt8)
   · rw [ch,hb] at xG
     rw [xG]; intro d hd; rw [List.mem_singleton] at hd; exact .inr hd
   · rw [if_neg xG,if_neg hne,if_pos (by omega)] at h
     by_cases hc : bt s 0 = 47
     · rw [if_pos hc] at h
       have wl : wrap64 ((s.size : Int) - 1) = ((s.size - 1 : Nat) : Int) := by rw [fK (x := (s.size : Int) - 1) (by omega) (by omega)]; omega
       rw [wl,if_pos (by omega),if_pos (by omega)] at h
       cases hl : (bt s ((s.size - 1 : Nat) : Int) == 47) with
       | true => rw [hl] at h; exact (jt k h).elim
       | false=>
         rw [hl] at h
         cases k with
         | zero => simp [ax.j0] at h
         | succ k=>
           simp only [ax.j0] at h
           rw [if_neg (by decide)] at h
           have hS := bytes s hs (s.size - 1) 1 rfl (by omega) (by omega)
           have e := TB (g := fun k => ax.l0 k s ((1 : Nat) : Int)) (fun k => (ax.zB k).2 _ _) (k := k) h hS
           have dt : (bl s).drop 1 = r := by rw [hb]; rfl
           rw [dt] at e
           intro d hd
           rcases List.mem_cons.mp hd with rfl | hd
           · exact .inr ((dN 47).mp (hc0.symm.trans hc))
           · exact Du r _ e.symm d hd
     · rw [if_neg hc] at h; exact (jt k h).elim
theorem KC (s : ByteArray) (hs : s.size ≤ 65536) (h : ∃ k,ax.f k s = some true) : (Lib.validD s.data.toList = true ∧ Lib.indexByte s.data.toList 0 = -1) ∧ ∃ kp,av.f kp s = some true := by
 obtain ⟨k,hk⟩ := h
 have hm := Qi s (by omega) k hk
 obtain ⟨b,h1,h2⟩ := both s (by omega)
 have e := TB (g := fun k => ax.f k s) (fun k => ax.mono _ _) hk h2
 rw [← e] at h1
 refine ⟨⟨?_,Fy _ fun c hc => (asc c (hm c hc)).2⟩,h1.rounds⟩
 rw [Lib.validD_ascii s.data.toList.length s.data.toList (fun c hc => by rw [List.take_length] at hc; exact (asc c (hm c hc)).1),List.drop_length]
 rfl
theorem SW (s : ByteArray) (hs : s.size ≤ 65536) : ∀ (k i : Nat),i ≤ s.size → bm.l0 k s (i : Int) = some true → Lib.validD s.data.toList = true ∧ ∀ j : Nat,i ≤ j → j < s.size → bt s (j : Int) ≠ 0
 | 0,i,_,h => by simp [bm.l0] at h
 | k + 1,i,hi,h => by
   simp only [bm.l0] at h
   by_cases hlt : i < s.size
   · rw [if_pos (by omega),if_pos (by omega),H6 i (by omega)] at h
     by_cases h0 : bt s (i : Int) = 0
     · rw [if_pos h0] at h; cases h
     · rw [if_neg h0] at h
       obtain ⟨g1,g2⟩ := SW s hs k (i + 1) (by omega) h
       refine ⟨g1,fun j h1 h2 => ?_⟩
       by_cases hj : j = i
       · subst hj; exact h0
       · exact g2 j (by omega) h2
   · rw [if_neg (by omega)] at h
     unfold utf8_ValidString.f at h
     rw [if_pos (by omega)] at h
     exact ⟨by simpa using h,fun j h1 h2 => by omega⟩
theorem Yh (s : ByteArray) (hs : s.size ≤ 65536) (h : ∃ k,bm.f k s = some true) : Lib.validD s.data.toList = true ∧ Lib.indexByte s.data.toList 0 = -1 := by
 obtain ⟨k,hk⟩ := h
 obtain ⟨g1,g2⟩ := SW s hs k 0 (Nat.zero_le _) hk
 refine ⟨g1,Fy _ fun c hc => ?_⟩
 obtain ⟨j,hj,e⟩ := List.mem_iff_getElem.mp hc
 have Gx : j < s.size := hj
 have := g2 j (Nat.zero_le _) Gx
 rintro rfl
 exact this (by rw [JO s j hj]; show (((s.data.toList)[j]'hj).toNat : Int) = 0; rw [e]; rfl)
end Pa
end Go.Proofs.YtkdebhgccpfkiaaGreatDoor.au
namespace Go.Proofs.YtkdebhgccpfkiaaGreatDoor.au
open Go.RowKit Go.Proofs.aa.az Go.Proofs.aa.aM Go.Proofs.aa.aU
attribute [local go_sem] ba bh
set_option linter.unusedVariables false
set_option linter.unusedSimpArgs false
open Go.Proofs.YtkdebhgccpfkiaaGreatDoor.fD
def BQ (P : Prop) (w : World) (e : Ending) (w' : World) : Prop := ∃ b,e = .returned (.bool b) ∧ Below w.heap.size w w' ∧ (b = true → P)
theorem Co {w w' : World} (hb : Below w.drew.heap.size w.drew w') : Below w.heap.size w w' := (ak (Below.refl w.heap.size w)).trans hb
theorem aev {L : List aT} {i : Nat} (h : i < L.length) : aA L (i : Int) = L[i] := by
 unfold aA
 rw [Int.toNat_natCast,List.getD_eq_getElem?_getD,List.getElem?_eq_getElem h]
 rfl
theorem iB {w W : World} {A : Option Addr} {L : List aT} {n : Nat} (hC : Kd.C dF w A L.length L) (hb : Below w.heap.size w W) (hn : L.length = n) (i : Nat) (y : aT) (hy : L[i]? = some y) : ∃ ad A3 c3,A = some ad ∧ W.cell? (ad.add (i * 4)) = some (.int .u8 y.f0) ∧ W.cell? ⟨(ad.add (i * 4)).block,(ad.add (i * 4)).off + 1,none⟩ = some (.int .u64 y.f1) ∧ W.cell? ⟨(ad.add (i * 4)).block,(ad.add (i * 4)).off + 2,none⟩ = some (.string y.f2) ∧ W.cell? ⟨(ad.add (i * 4)).block,(ad.add (i * 4)).off + 3,none⟩ = some (.slice A3 y.f3.length c3) ∧ y.f3.length ≤ c3 ∧ Kd.C dF W A3 y.f3.length y.f3 := by
 obtain ⟨hi,rfl⟩ := List.getElem?_eq_some_iff.1 hy
 obtain ⟨ad,A3,c3,e,q0,q1,q2,q3,hl,bN⟩ := EM hC (i : Int) (by omega) (by omega)
 rw [aev hi] at q0 q1 q2 q3 hl bN
 simp only [Int.toNat_natCast] at q0 q1 q2 q3
 exact ⟨ad,A3,c3,e,ag hb q0,ag hb q1,ag hb q2,ag hb q3,hl,Kd.bD bN hb⟩
theorem js (w : World) (x : aT) (n c : Nat) (A : Option Addr) : ∀ W,Below (w.alloc (.cells #[.int .u8 x.f0,.int .u64 x.f1,.string x.f2,.slice A n c] 25)).heap.size (w.alloc (.cells #[.int .u8 x.f0,.int .u64 x.f1,.string x.f2,.slice A n c] 25)) W →
 W.cell? ⟨w.heap.size,0,none⟩ = some (.int .u8 x.f0) ∧ W.cell? ⟨w.heap.size,1,none⟩ = some (.int .u64 x.f1) ∧ W.cell? ⟨w.heap.size,2,none⟩ = some (.string x.f2) ∧ W.cell? ⟨w.heap.size,3,none⟩ = some (.slice A n c) := fun W hb => by
 have h := aQ hb (heap_alloc_new w _)
 exact ⟨(cell_of_row W w.heap.size 0 _ 25 (0,0) h).trans rfl,(cell_of_row W w.heap.size 1 _ 25 (0,0) h).trans rfl,(cell_of_row W w.heap.size 2 _ 25 (0,0) h).trans rfl,(cell_of_row W w.heap.size 3 _ 25 (0,0) h).trans rfl⟩
theorem Nf : ∀ n (x : aT),(nodes x).length ≤ n → n ≤ 1000 → ∀ (y : aT) (A A2 : Option Addr) (c c2 : Nat) (w : World),Kd.C dF w A x.f3.length x.f3 → Kd.C dF w A2 y.f3.length y.f3 →
 Calls Tryz.prog 29 #[.agg #[.int .u8 x.f0,.int .u64 x.f1,.string x.f2,.slice A x.f3.length c],.agg #[.int .u8 y.f0,.int .u64 y.f1,.string y.f2,.slice A2 y.f3.length c2]] w (BQ True w) := by
 intro n
 induction n with
 | zero => intro x h; rw [nodes_eq] at h; simp at h
 | succ n ih=>
   intro x h hn y A A2 c c2 w hC Dn
   rw [nodes_eq] at h
   simp only [List.length_cons] at h
   have cf : ∀ z ∈ x.f3,(nodes z).length ≤ n := fun z hz => jM hz (by omega)
   have Bx := eH x.f3
   obtain ⟨m,hm⟩ : ∃ m,x.f3.length = m := ⟨_,rfl⟩
   obtain ⟨k,hk⟩ : ∃ k,y.f3.length = k := ⟨_,rfl⟩
   have HC := U.mk (And.intro hC (And.intro Dn (And.intro hm (And.intro hk (And.intro cf ih)))))
   have km : m ≤ 1000 := by omega
   rw [hm,hk]
   have eo := ab (Below.refl _ _) (.cells #[.int .u8 y.f0,.int .u64 y.f1,.string y.f2,.slice A2 k c2] 25) (w := w.alloc (.cells #[.int .u8 x.f0,.int .u64 x.f1,.string x.f2,.slice A m c] 25))
   have hx := js w x m c A _ eo
   have hy := js (w.alloc (.cells #[.int .u8 x.f0,.int .u64 x.f1,.string x.f2,.slice A m c] 25)) y k c2 A2 _ (Below.refl _ _)
   have hB := aw (ab (Below.refl w.heap.size w) (.cells #[.int .u8 x.f0,.int .u64 x.f1,.string x.f2,.slice A m c] 25)) eo
   simp only [World.size_alloc] at hy
   obtain ⟨p0,p1,p2,p3⟩ := hx
   obtain ⟨r0,r1,r2,r3⟩ := hy
   have HB := U.mk hB
   clear hC Dn hm hk cf ih h Bx eo hB
   go_enter Tryz.func29,Tryz.ntmps29
   obtain ⟨b1,h1⟩ : ∃ b,(x.f0 != y.f0) = b := ⟨_,rfl⟩
   obtain ⟨b2,h2⟩ : ∃ b,(x.f1 != y.f1) = b := ⟨_,rfl⟩
   obtain ⟨b3,h3⟩ : ∃ b,(!(x.f2.toList == y.f2.toList)) = b := ⟨_,rfl⟩
   obtain ⟨b4,h4⟩ : ∃ b,((m : Int) != (k : Int)) = b := ⟨_,rfl⟩
   cases b1
   · cases b2
     · cases b3
       · cases b4
         · have i' : m = k := by have := bne_eq_false_iff_eq.mp h4; omega
           subst i'
           have e1 : x.f0 = y.f0 := by simpa using h1
           have e2 : x.f1 = y.f1 := by simpa using h2
           go_wp2_with fail
           rw [e1,e2] at p0 p1 p2 p3 r0 r1 r2 r3 HB
           clear h1 h2 h3 h4 e1 e2
           obtain ⟨W,hW⟩ : ∃ W,(w.alloc (.cells #[.int .u8 y.f0,.int .u64 y.f1,.string x.f2,.slice A m c] 25)).alloc (.cells #[.int .u8 y.f0,.int .u64 y.f1,.string y.f2,.slice A2 m c2] 25) = W := ⟨_,rfl⟩
           rw [hW] at p0 p1 p2 p3 r0 r1 r2 r3 HB ⊢
           have HP := U.mk (And.intro p3 r3)
           clear p0 p1 p2 r0 r1 r2 p3 r3 hW
           go_loopg [37] m (fun kq v37 wr => ∃ i : Nat,v37 = .int .i64 (i : Int) ∧ i ≤ m ∧ U (kq = m - i ∧ Below W.heap.size W wr))
           case atStart => exact ⟨0,rfl,by omega,⟨rfl,Below.refl _ _⟩⟩
           case round=>
            obtain ⟨i,rfl,hi,HI⟩ := hrel
            have fP := U.mk HI.out.1
            by_cases hlt : i < m
            · have hd : decide ((i : Int) < (m : Int)) = true := by simpa using hlt
              have iI : IntKind.i64.wrap ((i : Int) + 1) = ((i + 1 : Nat) : Int) := by rw [IntKind.wrap_i64]; omega
              obtain ⟨iu,hCy,iq,hmy,cf,ih⟩ := HC.out
              have eK := HB.out.trans (aC HI.out.2 HB.out.size)
              obtain ⟨u,hu⟩ : ∃ u,x.f3[i]? = some u := ⟨_,List.getElem?_eq_getElem (by omega)⟩
              obtain ⟨v,hv⟩ : ∃ v,y.f3[i]? = some v := ⟨_,List.getElem?_eq_getElem (by omega)⟩
              obtain ⟨ad,A3,c3,rfl,a0,a1,a2,a3,fX,bN⟩ := iB iu eK iq i u hu
              obtain ⟨ae,A4,c4,rfl,e0,e1,e2,e3,lC,OP⟩ := iB hCy eK hmy i v hv
              have iQ := U.mk (fun (W' : World) (hb : Below wr.heap.size wr W') => ih u (cf u (List.mem_of_getElem? hu)) (by omega) v A3 A4 c3 c4 W' (Kd.bD bN hb) (Kd.bD OP hb))
              have f3 := ag HI.out.2 HP.out.1
              have g3 := ag HI.out.2 HP.out.2
              clear iu hCy iq hmy cf ih eK bN OP hu hv
              have FF := U.mk (And.intro f3 (And.intro g3 (And.intro a0 (And.intro a1 (And.intro a2 (And.intro a3 (And.intro e0 (And.intro e1 (And.intro e2 (e3))))))))))
              go_wp2_with fail
              go_region_held3 (fun w' => w'.cell? ⟨w.heap.size,3,none⟩ = some (.slice (some ad) m c) ∧ w'.cell? ⟨w.heap.size + 1,3,none⟩ = some (.slice (some ae) m c2) ∧ w'.cell? (ad.add (i * 4)) = some (.int .u8 u.f0) ∧ w'.cell? ⟨(ad.add (i * 4)).block,(ad.add (i * 4)).off + 1,none⟩ = some (.int .u64 u.f1) ∧ w'.cell? ⟨(ad.add (i * 4)).block,(ad.add (i * 4)).off + 2,none⟩ = some (.string u.f2) ∧ w'.cell? ⟨(ad.add (i * 4)).block,(ad.add (i * 4)).off + 3,none⟩ = some (.slice A3 u.f3.length c3) ∧ w'.cell? (ae.add (i * 4)) = some (.int .u8 v.f0) ∧ w'.cell? ⟨(ae.add (i * 4)).block,(ae.add (i * 4)).off + 1,none⟩ = some (.int .u64 v.f1) ∧ w'.cell? ⟨(ae.add (i * 4)).block,(ae.add (i * 4)).off + 2,none⟩ = some (.string v.f2) ∧ w'.cell? ⟨(ae.add (i * 4)).block,(ae.add (i * 4)).off + 3,none⟩ = some (.slice A4 v.f3.length c4))
               (first | exact k9.out | exact ⟨f3,g3,a0,a1,a2,a3,e0,e1,e2,e3⟩ | exact trivial | go_keep)
               (first | (go_at_call 29; with_reducible refine (iQ.out _ (ak (Below.refl _ _))).mono ?_; rintro e9 w9 xy; unfold BQ at xy; obtain ⟨b9,rfl,jP,_⟩ := xy; have dK := Co jP; clear jP; obtain ⟨jf3,YY,ja0,ja1,ja2,Y0,je0,je1,je2,YZ⟩ := FF.out; have k9 := U.mk (And.intro (ag dK jf3) (And.intro (ag dK YY) (And.intro (ag dK ja0) (And.intro (ag dK ja1) (And.intro (ag dK ja2) (And.intro (ag dK Y0) (And.intro (ag dK je0) (And.intro (ag dK je1) (And.intro (ag dK je2) (ag dK YZ)))))))))); have Fc := U.mk (HI.out.2.trans (aC dK HI.out.2.size)); clear dK))
              cases b9
              · go_wp2_with fail
                go_ret
                exact ⟨_,rfl,HB.out.trans (aC Fc.out HB.out.size),fun _ => trivial⟩
              · go_wp2_with fail
                go_roundg (m - (i + 1))
                case measure => have := fP.out; omega
                case rel => exact ⟨i + 1,by first | rfl | simp,hlt,⟨rfl,Fc.out⟩⟩
            · have hd : decide ((i : Int) < (m : Int)) = false := by simpa using hlt
              go_wp2_with fail
              go_ret
              exact ⟨_,rfl,HB.out.trans (aC HI.out.2 HB.out.size),fun _ => trivial⟩
         · go_wp2_with fail
           go_ret
           exact ⟨_,rfl,HB.out,fun _ => trivial⟩
       · go_wp2_with fail
         go_ret
         exact ⟨_,rfl,HB.out,fun _ => trivial⟩
     · go_wp2_with fail
       go_ret
       exact ⟨_,rfl,HB.out,fun _ => trivial⟩
   · go_wp2_with fail
     go_ret
     exact ⟨_,rfl,HB.out,fun _ => trivial⟩
end Go.Proofs.YtkdebhgccpfkiaaGreatDoor.au
namespace Go.Proofs.YtkdebhgccpfkiaaGreatDoor.au
open Go.RowKit Go.Proofs.aa.az Go.Proofs.aa.aM Go.Proofs.aa.aU
attribute [local go_sem] ba bh
set_option linter.unusedVariables false
set_option linter.unusedSimpArgs false
open Go.Proofs.YtkdebhgccpfkiaaGreatDoor.fD Go.Proofs.YtkdebhgccpfkiaaGreatDoor.fO Go.Proofs.YtkdebhgccpfkiaaGreatDoor.gw Go.Proofs.YtkdebhgccpfkiaaGreatDoor.dI Go.Proofs.YtkdebhgccpfkiaaGreatDoor.fg
def DK : Nat → aT → Prop
 | 0,_ => False
 | n + 1,x => (x.f0 = 97 → (∃ y ∈ x.f3,y.f0 = 123) → ∀ y ∈ x.f3,y.f3 ≠ []) ∧ ∀ y ∈ x.f3,DK n y
theorem Au (ad : Addr) : ad.add 0 = ad := by unfold Addr.add; split <;> simp_all
theorem O5 : ∀ n (x : aT),DK n x → (nodes x).length ≤ 1000 → ∀ (A : Option Addr) (c : Nat) (w : World),Kd.C dF w A x.f3.length x.f3 →
 Calls Tryz.prog 17 #[.agg #[.int .u8 x.f0,.int .u64 x.f1,.string x.f2,.slice A x.f3.length c]] w (BQ True w) := by
 intro n
 induction n with
 | zero => intro x h; exact h.elim
 | succ n ih=>
   intro x h hn A c w hC
   rw [nodes_eq] at hn
   simp only [List.length_cons] at hn
   have cf : ∀ z ∈ x.f3,(nodes z).length ≤ 1000 := fun z hz => jM hz (by omega)
   have Bx := eH x.f3
   obtain ⟨m,hm⟩ : ∃ m,x.f3.length = m := ⟨_,rfl⟩
   have HC := U.mk (And.intro hC (And.intro hm (And.intro cf (And.intro ih h))))
   have km : m ≤ 1000 := by omega
   rw [hm]
   have hp := js w x m c A _ (Below.refl _ _)
   have hB := ab (Below.refl w.heap.size w) (.cells #[.int .u8 x.f0,.int .u64 x.f1,.string x.f2,.slice A m c] 25)
   obtain ⟨p0,_,_,p3⟩ := hp
   have HB := U.mk hB
   clear hC hm cf ih hn Bx hB h
   go_enter Tryz.func17,Tryz.ntmps17
   go_wp2_with fail
   obtain ⟨W,hW⟩ : ∃ W,w.alloc (.cells #[.int .u8 x.f0,.int .u64 x.f1,.string x.f2,.slice A m c] 25) = W := ⟨_,rfl⟩
   rw [hW] at p0 p3 HB ⊢
   have HP := U.mk (And.intro p0 p3)
   clear p0 p3 hW
   go_loopg [8] m (fun kq v8 wr => ∃ i : Nat,v8 = .int .i64 (i : Int) ∧ i ≤ m ∧ U (kq = m - i ∧ Below W.heap.size W wr))
   case atStart => exact ⟨0,rfl,by omega,⟨rfl,Below.refl _ _⟩⟩
   case round=>
    obtain ⟨i,rfl,hi,HI⟩ := hrel
    have fP := U.mk HI.out.1
    by_cases hlt : i < m
    · have hd : decide ((i : Int) < (m : Int)) = true := by simpa using hlt
      have iI : IntKind.i64.wrap ((i : Int) + 1) = ((i + 1 : Nat) : Int) := by rw [IntKind.wrap_i64]; omega
      obtain ⟨iu,iq,cf,ih,hD⟩ := HC.out
      have eK := HB.out.trans (aC HI.out.2 HB.out.size)
      obtain ⟨u,hu⟩ : ∃ u,x.f3[i]? = some u := ⟨_,List.getElem?_eq_getElem (by omega)⟩
      obtain ⟨ad,A3,c3,rfl,a0,a1,a2,a3,fX,bN⟩ := iB iu eK iq i u hu
      have gg := List.mem_of_getElem? hu
      have iQ := U.mk (ih u (hD.2 u gg) (cf u gg) A3 c3 wr bN)
      have HU := U.mk hu
      have f3 := ag HI.out.2 HP.out.2
      clear iu iq cf ih eK bN hu hD gg
      go_wp2_with fail
      refine iQ.out.mono ?_
      rintro e1 w2 hq
      unfold BQ at hq
      obtain ⟨b,rfl,hb,_⟩ := hq
      have cO := U.mk (HI.out.2.trans (aC hb HI.out.2.size))
      clear hb a0 a1 a2 a3 f3 iQ
      cases b with
      | false=>
        go_wp2_with fail
        go_ret
        exact ⟨_,rfl,HB.out.trans (aC cO.out HB.out.size),fun _ => trivial⟩
      | true=>
        go_wp2_with fail
        go_loopg [4] i (fun kq v4 wr => ∃ j : Nat,v4 = .int .i64 (j : Int) ∧ j ≤ i ∧ U (kq = i - j ∧ Below W.heap.size W wr))
        case atStart => exact ⟨0,rfl,by omega,⟨rfl,cO.out⟩⟩
        case round=>
         obtain ⟨j,rfl,hj,HJ⟩ := hrel
         have Fa := U.mk HJ.out.1
         have g0 := ag HJ.out.2 HP.out.1
         have g3 := ag HJ.out.2 HP.out.2
         by_cases fF : j < i
         · have vB : decide ((j : Int) < (i : Int)) = true := by simpa using fF
           have hwj : IntKind.i64.wrap ((j : Int) + 1) = ((j + 1 : Nat) : Int) := by rw [IntKind.wrap_i64]; omega
           by_cases kt : x.f0 = 97
           · have YW : (x.f0 == 97) = true := by simp [kt]
             obtain ⟨iu,iq,cf,ih,hD⟩ := HC.out
             have Tt := HB.out.trans (aC HJ.out.2 HB.out.size)
             obtain ⟨ad', A3,c3,hae,a0,a1,a2,a3,fX,bN⟩ := iB iu Tt iq i u HU.out
             obtain rfl := Option.some.inj hae
             by_cases cd : u.f0 = 123
             · have QG : (u.f0 == 123) = true := by simp [cd]
               obtain ⟨v,hv⟩ : ∃ v,x.f3[j]? = some v := ⟨_,List.getElem?_eq_getElem (by omega)⟩
               have gg := List.mem_of_getElem? HU.out
               have Za := List.mem_of_getElem? hv
               have hne := hD.1 kt ⟨u,gg,cd⟩
               obtain ⟨aiD,A4,c4,ae1,e0,e1,e2,e3,lC,OP⟩ := iB iu Tt iq j v hv
               obtain rfl := Option.some.inj ae1
               obtain ⟨lu,Ot⟩ : ∃ l,u.f3.length = l := ⟨_,rfl⟩
               obtain ⟨lv,Je⟩ : ∃ l,v.f3.length = l := ⟨_,rfl⟩
               have pu : 0 < lu := Ot ▸ List.length_pos_iff.mpr (hne u gg)
               have pv : 0 < lv := Je ▸ List.length_pos_iff.mpr (hne v Za)
               obtain ⟨u0,hu0⟩ : ∃ y,u.f3[0]? = some y := ⟨_,List.getElem?_eq_getElem (by omega)⟩
               obtain ⟨v0,Ok⟩ : ∃ y,v.f3[0]? = some y := ⟨_,List.getElem?_eq_getElem (by omega)⟩
               obtain ⟨af,A5,c5,rfl,t0,t1,t2,t3,hl5,Lg⟩ := iB bN (Below.refl _ _) Ot 0 u0 hu0
               obtain ⟨ae,A6,c6,rfl,s0,s1,s2,s3,hl6,Lf⟩ := iB OP (Below.refl _ _) Je 0 v0 Ok
               have vu := Au af
               have zE := Au ae
               simp only [Nat.zero_mul,vu,zE] at t0 t1 t2 t3 s0 s1 s2 s3
               rw [Ot] at a3
               rw [Je] at e3
               have i1 : ((0 : Int) < (lu : Int)) = True := eq_true (by omega)
               have i2 : ((0 : Int) < (lv : Int)) = True := eq_true (by omega)
               have i3 : (0 < lu) = True := eq_true pu
               have i4 : (0 < lv) = True := eq_true pv
               have hnu : (nodes v0).length ≤ 1000 := by
                have h1 := cf v Za
                rw [nodes_eq] at h1
                simp only [List.length_cons] at h1
                exact jM (List.mem_of_getElem? Ok) (by omega)
               have iQ := U.mk (fun (W' : World) (hb : Below wr.heap.size wr W') => Nf 1000 v0 hnu (Nat.le_refl _) u0 A6 A5 c6 c5 W' (Kd.bD Lf hb) (Kd.bD Lg hb))
               have FF := U.mk (And.intro g3 (And.intro e3 (And.intro s0 (And.intro s1 (And.intro s2 (And.intro s3 (And.intro a3 (And.intro t0 (And.intro t1 (And.intro t2 (t3)))))))))))
               have i5 : ((j : Int) < (m : Int)) = True := eq_true (by omega)
               have i6 : (j < m) = True := eq_true (by omega)
               clear kt cd iu iq cf ih hD Tt bN OP Lg Lf gg Za hne hu0 Ok hv pu pv hnu Ot Je e0 e1 e2
               go_wp2_with fail
               go_region_held3 (fun w' => w'.cell? ⟨w.heap.size,3,none⟩ = some (.slice (some ad) m c) ∧ w'.cell? ⟨(ad.add (j * 4)).block,(ad.add (j * 4)).off + 3,none⟩ = some (.slice (some ae) lv c4) ∧ w'.cell? ae = some (.int .u8 v0.f0) ∧ w'.cell? ⟨ae.block,ae.off + 1,none⟩ = some (.int .u64 v0.f1) ∧ w'.cell? ⟨ae.block,ae.off + 2,none⟩ = some (.string v0.f2) ∧ w'.cell? ⟨ae.block,ae.off + 3,none⟩ = some (.slice A6 v0.f3.length c6) ∧ w'.cell? ⟨(ad.add (i * 4)).block,(ad.add (i * 4)).off + 3,none⟩ = some (.slice (some af) lu c3) ∧ w'.cell? af = some (.int .u8 u0.f0) ∧ w'.cell? ⟨af.block,af.off + 1,none⟩ = some (.int .u64 u0.f1) ∧ w'.cell? ⟨af.block,af.off + 2,none⟩ = some (.string u0.f2) ∧ w'.cell? ⟨af.block,af.off + 3,none⟩ = some (.slice A5 u0.f3.length c5))
                (first | exact k9.out | exact FF.out | go_keep)
                (first | (go_at_call 29; with_reducible refine (iQ.out _ (ak (Below.refl _ _))).mono ?_; rintro e9 w9 xy; unfold BQ at xy; obtain ⟨b9,rfl,jP,_⟩ := xy; have dK := Co jP; clear jP; obtain ⟨YY,YZ,js0,js1,IW,js3,Y0,jt0,jt1,jt2,jt3⟩ := FF.out; have k9 := U.mk (And.intro (ag dK YY) (And.intro (ag dK YZ) (And.intro (ag dK js0) (And.intro (ag dK js1) (And.intro (ag dK IW) (And.intro (ag dK js3) (And.intro (ag dK Y0) (And.intro (ag dK jt0) (And.intro (ag dK jt1) (And.intro (ag dK jt2) ((ag dK jt3)))))))))))); have Fc := U.mk (HJ.out.2.trans (aC dK HJ.out.2.size)); clear dK))
               cases b9
               · go_wp2_with fail
                 go_roundg (i - (j + 1))
                 case measure => have := Fa.out; omega
                 case rel => exact ⟨j + 1,by first | rfl | simp,fF,⟨rfl,Fc.out⟩⟩
               · go_wp2_with fail
                 go_ret
                 exact ⟨_,rfl,HB.out.trans (aC Fc.out HB.out.size),fun _ => trivial⟩
             · have QG : (u.f0 == 123) = false := by simp [cd]
               clear kt cd iu iq cf ih hD Tt bN
               go_wp2_with fail
               go_roundg (m - (i + 1))
               case measure => have := fP.out; omega
               case rel => exact ⟨i + 1,by first | rfl | simp,hlt,⟨rfl,HJ.out.2⟩⟩
           · have YW : (x.f0 == 97) = false := by simp [kt]
             clear kt
             go_wp2_with fail
             go_roundg (m - (i + 1))
             case measure => have := fP.out; omega
             case rel => exact ⟨i + 1,by first | rfl | simp,hlt,⟨rfl,HJ.out.2⟩⟩
         · have vB : decide ((j : Int) < (i : Int)) = false := by simpa using fF
           go_wp2_with fail
           go_roundg (m - (i + 1))
           case measure => have := fP.out; omega
           case rel => exact ⟨i + 1,by first | rfl | simp,hlt,⟨rfl,HJ.out.2⟩⟩
    · have hd : decide ((i : Int) < (m : Int)) = false := by simpa using hlt
      go_wp2_with fail
      go_ret
      exact ⟨_,rfl,HB.out.trans (aC HI.out.2 HB.out.size),fun _ => trivial⟩
def DQ (n : Nat) (x : aT) (w : World) (e : Ending) (w' : World) : Prop := ∃ d : Int,e = .returned (.int .i64 d) ∧ Below w.heap.size w w' ∧ 0 ≤ d ∧ d ≤ n ∧ ∀ q : Nat,d < q → DP q x
theorem GM : ∀ n (x : aT),(nodes x).length ≤ n → n ≤ 1000 → ∀ (A : Option Addr) (c : Nat) (w : World),Kd.C dF w A x.f3.length x.f3 →
 Calls Tryz.prog 8 #[.agg #[.int .u8 x.f0,.int .u64 x.f1,.string x.f2,.slice A x.f3.length c]] w (DQ n x w) := by
 intro n
 induction n with
 | zero => intro x h; rw [nodes_eq] at h; simp at h
 | succ n ih=>
   intro x h hn A c w hC
   rw [nodes_eq] at h
   simp only [List.length_cons] at h
   have cf : ∀ z ∈ x.f3,(nodes z).length ≤ n := fun z hz => jM hz (by omega)
   have Bx := eH x.f3
   obtain ⟨m,hm⟩ : ∃ m,x.f3.length = m := ⟨_,rfl⟩
   have km : m ≤ 1000 := by omega
   have HC := U.mk (And.intro hC (And.intro hm (And.intro cf (And.intro ih hn))))
   rw [hm]
   obtain ⟨p0,_,_,p3⟩ := js w x m c A _ (Below.refl _ _)
   have HB := U.mk (ab (Below.refl w.heap.size w) (.cells #[.int .u8 x.f0,.int .u64 x.f1,.string x.f2,.slice A m c] 25))
   clear hC hm cf ih h Bx
   go_enter Tryz.func8,Tryz.ntmps8
   go_wp2_with fail
   obtain ⟨W,hW⟩ : ∃ W,w.alloc (.cells #[.int .u8 x.f0,.int .u64 x.f1,.string x.f2,.slice A m c] 25) = W := ⟨_,rfl⟩
   rw [hW] at p0 p3 HB ⊢
   have HP := U.mk p0
   clear p0 p3 hW
   go_loopg [3,9] m (fun kq v3 v9 wr => ∃ (i : Nat) (t : Int),v3 = .int .i64 t ∧ v9 = .int .i64 (i : Int) ∧ i ≤ m ∧ U (kq = m - i ∧ 0 ≤ t ∧ t ≤ n ∧ Below W.heap.size W wr ∧ ∀ y ∈ x.f3.take i,∀ q : Nat,t < q → DP q y))
   case atStart => exact ⟨0,0,rfl,rfl,by omega,⟨rfl,Int.le_refl _,by omega,Below.refl _ _,fun y hy => by simp at hy⟩⟩
   case round=>
    obtain ⟨i,t,rfl,rfl,hi,HI⟩ := hrel
    by_cases hlt : i < m
    · have hd : decide ((i : Int) < (m : Int)) = true := decide_eq_true (by omega)
      have iI : IntKind.i64.wrap ((i : Int) + 1) = ((i + 1 : Nat) : Int) := by rw [IntKind.wrap_i64]; omega
      obtain ⟨iu,iq,cf,ih,gD⟩ := HC.out
      have eK := HB.out.trans (aC HI.out.2.2.2.1 HB.out.size)
      obtain ⟨u,hu⟩ : ∃ u,x.f3[i]? = some u := ⟨_,List.getElem?_eq_getElem (by omega)⟩
      obtain ⟨ad,A3,c3,rfl,a0,a1,a2,a3,fX,bN⟩ := iB iu eK iq i u hu
      have gg := List.mem_of_getElem? hu
      obtain ⟨ln,eV⟩ : ∃ l,u.f3.length = l := ⟨_,rfl⟩
      have bZ := ab (Below.refl wr.heap.size wr) (.cells #[.int .u8 u.f0,.int .u64 u.f1,.string u.f2,.slice A3 ln c3] 25)
      have iQ := U.mk (ih u (cf u gg) (by omega) A3 c3 (wr.alloc (.cells #[.int .u8 u.f0,.int .u64 u.f1,.string u.f2,.slice A3 ln c3] 25)) (Kd.bD bN bZ))
      rw [eV] at a3 iQ
      have HU := U.mk hu
      have fI := U.mk bZ
      obtain ⟨q0,q1,q2,q3⟩ := js wr u ln c3 A3 _ (Below.refl _ _)
      clear iu iq cf ih eK bN hu gg fX bZ eV gD
      go_wp2_with fail
      refine iQ.out.mono ?_
      rintro e1 w2 hq
      unfold DQ at hq
      obtain ⟨d,rfl,hb,h0,h1,h2⟩ := hq
      have cO := U.mk (HI.out.2.2.2.1.trans (aC (fI.out.trans (aC hb fI.out.size)) HI.out.2.2.2.1.size))
      have HD := U.mk (And.intro h0 (And.intro h1 h2))
      clear hb a0 a1 a2 a3 q0 q1 q2 q3 iQ h0 h1 h2
      go_wp2_with fail
      all_goals (go_roundg (m - (i + 1)); (case measure => have := HI.out.1; omega); (case rel=>
       have Jh := HI.out.2
       obtain ⟨g0,g1,_,g2⟩ := Jh
       have hu := HU.out
       have key : ∀ r : Int,t ≤ r → d ≤ r → ∀ y ∈ x.f3.take (i + 1),∀ q : Nat,r < q → DP q y := by
        intro r On jW y hy q hq
        rw [List.take_add_one,hu] at hy
        rcases List.mem_append.mp hy with hy | hy
        · exact g2 y hy q (by omega)
        · simp at hy; subst hy; exact HD.out.2.2 q (by omega)
       have Jq := HD.out
       first
        | exact ⟨i + 1,d,rfl,by first | rfl | simp,hlt,⟨rfl,Jq.1,Jq.2.1,cO.out,key d (by omega) (by omega)⟩⟩
        | exact ⟨i + 1,t,rfl,by first | rfl | simp,hlt,⟨rfl,g0,g1,cO.out,key t (by omega) (by omega)⟩⟩))
    · have hd : decide ((i : Int) < (m : Int)) = false := decide_eq_false (by omega)
      have p0 := ag HI.out.2.2.2.1 HP.out
      have hwt : IntKind.i64.wrap (t + 1) = t + 1 := by rw [IntKind.wrap_i64]; have := HI.out.2.1; have := HI.out.2.2.1; have := HC.out.2.2.2.2; omega
      have Et : i = m := by omega
      have HF := U.mk (show ∀ y ∈ x.f3,∀ q : Nat,t < q → DP q y from fun y hy => HI.out.2.2.2.2 y (by rw [Et,← HC.out.2.1,List.take_length]; exact hy))
      have HW := U.mk (HB.out.trans (aC HI.out.2.2.2.1 HB.out.size))
      have HR := U.mk (And.intro HI.out.2.1 HI.out.2.2.1)
      have fin : ∀ q : Nat,t + 1 < q → DP q x := by
       intro q hq
       cases q with
       | zero => have := HR.out.1; omega
       | succ q => exact fun _ y hy => HF.out y hy q (by omega)
      have Uv := U.mk fin
      clear fin HI HC
      by_cases c1 : x.f0 = 97
      · have YW : (x.f0 == 97) = true := by simp [c1]
        clear c1
        go_wp2_with fail
        go_ret
        exact ⟨t + 1,rfl,HW.out,by have := HR.out.1; omega,by have := HR.out.2; omega,Uv.out⟩
      · have YW : (x.f0 == 97) = false := by simp [c1]
        have ly := U.mk c1
        clear c1
        by_cases c1 : x.f0 = 40
        · have k40 : (x.f0 == 40) = true := by simp [c1]
          clear c1
          go_wp2_with fail
          go_ret
          exact ⟨t + 1,rfl,HW.out,by have := HR.out.1; omega,by have := HR.out.2; omega,Uv.out⟩
        · have k40 : (x.f0 == 40) = false := by simp [c1]
          have xr := U.mk c1
          clear c1
          by_cases c1 : x.f0 = 123
          · have QG : (x.f0 == 123) = true := by simp [c1]
            clear c1
            go_wp2_with fail
            go_ret
            exact ⟨t + 1,rfl,HW.out,by have := HR.out.1; omega,by have := HR.out.2; omega,Uv.out⟩
          · have QG : (x.f0 == 123) = false := by simp [c1]
            have n123 := U.mk c1
            clear c1
            by_cases c1 : x.f0 = 118
            · have aeJ : (x.f0 == 118) = true := by simp [c1]
              clear c1
              go_wp2_with fail
              go_ret
              exact ⟨t + 1,rfl,HW.out,by have := HR.out.1; omega,by have := HR.out.2; omega,Uv.out⟩
            · have aeJ : (x.f0 == 118) = false := by simp [c1]
              have n118 := U.mk c1
              clear c1
              have FL : U (∀ q : Nat,t < q → DP q x) := ⟨fun q hq => by
               cases q with
               | zero => have := HR.out.1; omega
               | succ q => exact fun hc => by rcases hc with h | h | h | h <;> (exfalso; first | exact ly.out h | exact xr.out h | exact n123.out h | exact n118.out h)⟩
              go_wp2_with fail
              go_ret
              exact ⟨t,rfl,HW.out,HR.out.1,by have := HR.out.2; omega,FL.out⟩
end Go.Proofs.YtkdebhgccpfkiaaGreatDoor.au
namespace Go.Proofs.YtkdebhgccpfkiaaGreatDoor.au
open Go.RowKit Go.Proofs.aa.az Go.Proofs.aa.aM Go.Proofs.aa.aU
attribute [local go_sem] ba bh
set_option linter.unusedVariables false
set_option linter.unusedSimpArgs false
open Go.Proofs.YtkdebhgccpfkiaaGreatDoor.fD Go.Proofs.YtkdebhgccpfkiaaGreatDoor.fO Go.Proofs.YtkdebhgccpfkiaaGreatDoor.gw
theorem cv1 (W : World) (a : Int) : (convert 36 9 (.slice (some ⟨W.heap.size,0,none⟩) 1 1)).run Tryz.prog (W.alloc (.cells #[.int .u8 a] 5)) = .ok (.string (strOfNums [a])) (W.alloc (.cells #[.int .u8 a] 5)) := by
 refine run_convert_bytes_arg _ 36 5 Tryz.underlying36 Tryz.underlying5 W.heap.size 0 1 1 [a] rfl (fun i hi => ?_) 9 Tryz.underlying9
 obtain rfl : i = 0 := by omega
 exact (cell_of_row _ W.heap.size 0 _ 5 (0,0) (heap_alloc_new W _)).trans rfl
theorem AY (u : aT) : ∀ l : List aT,fy (l ++ [u]) = fy l ++ sig u
 | [] => gQ (by simp [fy,dg,bl])
 | x :: r => gQ (by rw [List.cons_append,fy,fy,AY u r]; simp [dg])
theorem Nc (x : aT) (h : (aJ x.f3).length ≤ 1000) (hs : Sh x.f3) (i : Nat) : (fy (x.f3.take i)).size ≤ 65540000 := by
 have e : x.f3.take i ++ x.f3.drop i = x.f3 := List.take_append_drop _ _
 have h1 : (aJ (x.f3.take i)).length ≤ (aJ x.f3).length := by
  conv => rhs; rw [← e,ee]
  simp only [List.length_append]; omega
 have := Gc _ (x.f3.take i) (Nat.le_refl _) (fun y hy => hs y (by rw [← e,ee]; exact List.mem_append_left _ hy))
 omega
theorem AX : ∀ n (x : aT),(nodes x).length ≤ n → n ≤ 1000 → Sh [x] → ∀ (A : Option Addr) (c : Nat) (w : World),Kd.C dF w A x.f3.length x.f3 →
 Calls Tryz.prog 9 #[.agg #[.int .u8 x.f0,.int .u64 x.f1,.string x.f2,.slice A x.f3.length c]] w fun e w' => e = .returned (.string (sig x)) ∧ Below w.heap.size w w' := by
 intro n
 induction n with
 | zero => intro x h; rw [nodes_eq] at h; simp at h
 | succ n ih=>
   intro x h hn hs A c w hC
   obtain ⟨vx,jz,_⟩ := hs.cons
   rw [nodes_eq] at h
   simp only [List.length_cons] at h
   have cf : ∀ z ∈ x.f3,(nodes z).length ≤ n ∧ Sh [z] := fun z hz => ⟨jM hz (by omega),(IU hz (Nat.le_refl _) jz).2⟩
   have Bx := eH x.f3
   have Ld := Nc x (by omega) jz
   obtain ⟨m,hm⟩ : ∃ m,x.f3.length = m := ⟨_,rfl⟩
   have km : m ≤ 1000 := by omega
   have HC := U.mk (And.intro hC (And.intro hm (And.intro cf (And.intro ih (And.intro hn Ld)))))
   have hsg : sig x = if x.f0 = 97 then (⟨#[97]⟩ : ByteArray) ++ x.f2 else if x.f0 = 40 then strOfNums [x.f0] ++ fy x.f3 ++ (⟨#[41]⟩ : ByteArray) else if x.f0 = 123 then strOfNums [x.f0] ++ fy x.f3 ++ (⟨#[125]⟩ : ByteArray) else strOfNums [x.f0] := by
    obtain ⟨a,b,s,l⟩ := x; rw [sig]
   have GV := U.mk hsg
   rw [hm]
   obtain ⟨p0,_,p2,p3⟩ := js w x m c A _ (Below.refl _ _)
   have HB := U.mk (ab (Below.refl w.heap.size w) (.cells #[.int .u8 x.f0,.int .u64 x.f1,.string x.f2,.slice A m c] 25))
   clear hC hm cf ih h Bx hs jz Ld hsg
   go_enter Tryz.func9,Tryz.ntmps9
   by_cases kt : x.f0 = 97
   · have k1 : (x.f0 == 97) = true := by simp [kt]
     have gL : (9223372036854775807 < 1 + x.f2.size) = False := eq_false (by omega)
     have PN := U.mk kt
     clear kt
     go_wp2_with fail
     go_ret
     exact ⟨by rw [GV.out,if_pos PN.out]; rfl,HB.out⟩
   · have k1 : (x.f0 == 97) = false := by simp [kt]
     have PN := U.mk kt
     clear kt
     have Ju := cv1 (w.alloc (.cells #[.int .u8 x.f0,.int .u64 x.f1,.string x.f2,.slice A m c] 25)) x.f0
     simp only [World.size_alloc] at Ju
     by_cases iv : x.f0 = 40
     · have k2 : (x.f0 == 40) = true := by simp [iv]
       have k3 : (x.f0 == 123) = false := by simp [iv]
       have HE : U (sig x = strOfNums [x.f0] ++ fy x.f3 ++ (⟨#[41]⟩ : ByteArray)) := ⟨by rw [GV.out,if_neg PN.out,if_pos iv]⟩
       clear iv
       go_wp2_with fail
       obtain ⟨W,hW⟩ : ∃ W,((w.alloc (.cells #[.int .u8 x.f0,.int .u64 x.f1,.string x.f2,.slice A m c] 25)).alloc (.cells #[.int .u8 x.f0] 5)) = W := ⟨_,rfl⟩
       have jo : U (Below w.heap.size w W) := ⟨by rw [← hW]; exact ab HB.out _⟩
       rw [hW]
       clear p0 p2 p3 Ju hW HB
       go_loopg [4,27] m (fun kq v4 H7 wr => ∃ (i : Nat) (s : ByteArray),v4 = .string s ∧ H7 = .int .i64 (i : Int) ∧ i ≤ m ∧ U (kq = m - i ∧ Below W.heap.size W wr ∧ s = strOfNums [x.f0] ++ fy (x.f3.take i)))
       case atStart => exact ⟨0,_,rfl,rfl,by omega,⟨rfl,Below.refl _ _,gQ (by simp [fy,dg,bl])⟩⟩
       case round=>
        obtain ⟨i,s,rfl,rfl,hi,HI⟩ := hrel
        have lA : s.size ≤ 65540001 := by
         have h1 := HC.out.2.2.2.2.2 i
         rw [HI.out.2.2,gH,vj]; simp only [List.length_cons,List.length_nil]; omega
        by_cases hlt : i < m
        · have hd : decide ((i : Int) < (m : Int)) = true := decide_eq_true (by omega)
          have iI : IntKind.i64.wrap ((i : Int) + 1) = ((i + 1 : Nat) : Int) := by rw [IntKind.wrap_i64]; omega
          obtain ⟨iu,iq,cf,ih,gD,Ld⟩ := HC.out
          have eK := jo.out.trans (aC HI.out.2.1 jo.out.size)
          obtain ⟨u,hu⟩ : ∃ u,x.f3[i]? = some u := ⟨_,List.getElem?_eq_getElem (by omega)⟩
          obtain ⟨ad,A3,c3,rfl,a0,a1,a2,a3,fX,bN⟩ := iB iu eK iq i u hu
          have gg := List.mem_of_getElem? hu
          obtain ⟨ln,eV⟩ : ∃ l,u.f3.length = l := ⟨_,rfl⟩
          have bZ := ab (Below.refl wr.heap.size wr) (.cells #[.int .u8 u.f0,.int .u64 u.f1,.string u.f2,.slice A3 ln c3] 25)
          have iQ := U.mk (ih u (cf u gg).1 (by omega) (cf u gg).2 A3 c3 (wr.alloc (.cells #[.int .u8 u.f0,.int .u64 u.f1,.string u.f2,.slice A3 ln c3] 25)) (Kd.bD bN bZ))
          have gL : (9223372036854775807 < s.size + (sig u).size) = False := eq_false (by have h1 := vm (cf u gg).2; have h2 := (cf u gg).1; omega)
          rw [eV] at a3 iQ
          have HU := U.mk hu
          have fI := U.mk bZ
          obtain ⟨q0,q1,q2,q3⟩ := js wr u ln c3 A3 _ (Below.refl _ _)
          clear iu iq cf ih eK bN hu gg fX bZ eV gD Ld
          go_wp2_with fail
          refine iQ.out.mono ?_
          rintro e1 w2 ⟨rfl,hb⟩
          have cO := U.mk (HI.out.2.1.trans (aC (fI.out.trans (aC hb fI.out.size)) HI.out.2.1.size))
          clear hb a0 a1 a2 a3 q0 q1 q2 q3 iQ
          go_wp2_with fail
          go_roundg (m - (i + 1))
          case measure => have := HI.out.1; omega
          case rel => exact ⟨i + 1,_,rfl,by first | rfl | simp,hlt,⟨rfl,cO.out,by rw [HI.out.2.2,List.take_add_one,HU.out]; exact gQ (by simp [AY,dg])⟩⟩
        · have hd : decide ((i : Int) < (m : Int)) = false := decide_eq_false (by omega)
          have gL : (9223372036854775807 < s.size + 1) = False := eq_false (by omega)
          have Et : i = m := by omega
          go_wp2_with fail
          go_ret
          exact ⟨by rw [HE.out]; have h1 := HI.out.2.2; rw [Et,← HC.out.2.1,List.take_length] at h1; rw [← h1]; rfl,jo.out.trans (aC HI.out.2.1 jo.out.size)⟩
     · have k2 : (x.f0 == 40) = false := by simp [iv]
       by_cases cd : x.f0 = 123
       · have k3 : (x.f0 == 123) = true := by simp [cd]
         have HE : U (sig x = strOfNums [x.f0] ++ fy x.f3 ++ (⟨#[125]⟩ : ByteArray)) := ⟨by rw [GV.out,if_neg PN.out,if_neg iv,if_pos cd]⟩
         clear iv cd
         go_wp2_with fail
         obtain ⟨W,hW⟩ : ∃ W,((w.alloc (.cells #[.int .u8 x.f0,.int .u64 x.f1,.string x.f2,.slice A m c] 25)).alloc (.cells #[.int .u8 x.f0] 5)) = W := ⟨_,rfl⟩
         have jo : U (Below w.heap.size w W) := ⟨by rw [← hW]; exact ab HB.out _⟩
         rw [hW]
         clear p0 p2 p3 Ju hW HB
         go_loopg [4,27] m (fun kq v4 H7 wr => ∃ (i : Nat) (s : ByteArray),v4 = .string s ∧ H7 = .int .i64 (i : Int) ∧ i ≤ m ∧ U (kq = m - i ∧ Below W.heap.size W wr ∧ s = strOfNums [x.f0] ++ fy (x.f3.take i)))
         case atStart => exact ⟨0,_,rfl,rfl,by omega,⟨rfl,Below.refl _ _,gQ (by simp [fy,dg,bl])⟩⟩
         case round=>
          obtain ⟨i,s,rfl,rfl,hi,HI⟩ := hrel
          have lA : s.size ≤ 65540001 := by
           have h1 := HC.out.2.2.2.2.2 i
           rw [HI.out.2.2,gH,vj]; simp only [List.length_cons,List.length_nil]; omega
          by_cases hlt : i < m
          · have hd : decide ((i : Int) < (m : Int)) = true := decide_eq_true (by omega)
            have iI : IntKind.i64.wrap ((i : Int) + 1) = ((i + 1 : Nat) : Int) := by rw [IntKind.wrap_i64]; omega
            obtain ⟨iu,iq,cf,ih,gD,Ld⟩ := HC.out
            have eK := jo.out.trans (aC HI.out.2.1 jo.out.size)
            obtain ⟨u,hu⟩ : ∃ u,x.f3[i]? = some u := ⟨_,List.getElem?_eq_getElem (by omega)⟩
            obtain ⟨ad,A3,c3,rfl,a0,a1,a2,a3,fX,bN⟩ := iB iu eK iq i u hu
            have gg := List.mem_of_getElem? hu
            obtain ⟨ln,eV⟩ : ∃ l,u.f3.length = l := ⟨_,rfl⟩
            have bZ := ab (Below.refl wr.heap.size wr) (.cells #[.int .u8 u.f0,.int .u64 u.f1,.string u.f2,.slice A3 ln c3] 25)
            have iQ := U.mk (ih u (cf u gg).1 (by omega) (cf u gg).2 A3 c3 (wr.alloc (.cells #[.int .u8 u.f0,.int .u64 u.f1,.string u.f2,.slice A3 ln c3] 25)) (Kd.bD bN bZ))
            have gL : (9223372036854775807 < s.size + (sig u).size) = False := eq_false (by have h1 := vm (cf u gg).2; have h2 := (cf u gg).1; omega)
            rw [eV] at a3 iQ
            have HU := U.mk hu
            have fI := U.mk bZ
            obtain ⟨q0,q1,q2,q3⟩ := js wr u ln c3 A3 _ (Below.refl _ _)
            clear iu iq cf ih eK bN hu gg fX bZ eV gD Ld
            go_wp2_with fail
            refine iQ.out.mono ?_
            rintro e1 w2 ⟨rfl,hb⟩
            have cO := U.mk (HI.out.2.1.trans (aC (fI.out.trans (aC hb fI.out.size)) HI.out.2.1.size))
            clear hb a0 a1 a2 a3 q0 q1 q2 q3 iQ
            go_wp2_with fail
            go_roundg (m - (i + 1))
            case measure => have := HI.out.1; omega
            case rel => exact ⟨i + 1,_,rfl,by first | rfl | simp,hlt,⟨rfl,cO.out,by rw [HI.out.2.2,List.take_add_one,HU.out]; exact gQ (by simp [AY,dg])⟩⟩
          · have hd : decide ((i : Int) < (m : Int)) = false := decide_eq_false (by omega)
            have gL : (9223372036854775807 < s.size + 1) = False := eq_false (by omega)
            have Et : i = m := by omega
            go_wp2_with fail
            go_ret
            exact ⟨by rw [HE.out]; have h1 := HI.out.2.2; rw [Et,← HC.out.2.1,List.take_length] at h1; rw [← h1]; rfl,jo.out.trans (aC HI.out.2.1 jo.out.size)⟩
       · have k3 : (x.f0 == 123) = false := by simp [cd]
         have HE : U (sig x = strOfNums [x.f0]) := ⟨by rw [GV.out,if_neg PN.out,if_neg iv,if_neg cd]⟩
         clear iv cd
         go_wp2_with fail
         go_ret
         exact ⟨by rw [HE.out]; rfl,ab HB.out _⟩
theorem P' (x : aT) (A3 : Option Addr) (c3 : Nat) (w : World) (hC : Kd.C dF w A3 x.f3.length x.f3) (_ : x.f3.length ≤ c3) (hn : (nodes x).length ≤ 1000) (hs : Sh [x]) :
 Calls Tryz.prog 9 #[.agg #[.int .u8 x.f0,.int .u64 x.f1,.string x.f2,.slice A3 x.f3.length c3]] w fun e w' => e = .returned (.string (sig x)) ∧ Below w.heap.size w w' := AX 1000 x hn (Nat.le_refl _) hs A3 c3 w hC
end Go.Proofs.YtkdebhgccpfkiaaGreatDoor.au
