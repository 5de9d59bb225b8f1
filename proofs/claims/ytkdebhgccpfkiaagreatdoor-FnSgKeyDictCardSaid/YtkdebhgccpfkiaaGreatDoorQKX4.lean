import Derived.Test.YtkdebhgccpfkiaaGreatDoorQKX1
set_option maxRecDepth 100000
set_option maxHeartbeats 16000000
namespace Go.Proofs.YtkdebhgccpfkiaaGreatDoor.au
open Go.RowKit Go.Proofs.aa.az Go.Proofs.aa.aM Go.Proofs.aa.aU
attribute [local go_sem] ba bh
set_option linter.unusedVariables false
set_option linter.unusedSimpArgs false







mutual
def bj.l0 : Nat → List (aT) → Int → Int → Int → Int → ByteArray → List (cY) → Option (Int × Int × ByteArray × (List (cY)))
 | 0,_,_,_,_,_,_,_ => none
 | k + 1,F9,SR,C7,Kk,Kj,Ki,Fg => if C7 < SR then (if 0 ≤ C7 then (if C7 < (F9.length : Int) then ((bj.f k ((aA F9 C7).f0) ((aA F9 C7).f1) ((aA F9 C7).f2) ((aA F9 C7).f3)).bind fun Hr => (if Fg.length < 2513169434916 then (bj.l0 k F9 SR (wrap64 (C7 + 1)) Kk Kj Ki (Fg ++ [(⟨Hr.1,Hr.2.1,Hr.2.2.1,Hr.2.2.2⟩ : cY)])) else (none))) else (none)) else (none)) else (some (Kk,Kj,Ki,Fg))
def bj.f : Nat → Int → Int → ByteArray → List (aT) → Option (Int × Int × ByteArray × (List (cY)))
 | 0,_,_,_,_ => none
 | k + 1,bw,bG,bu,aN => bj.l0 k aN (aN.length : Int) 0 bw bG bu ([] : List (cY))
end
def bj.T5 : Bool × List (List Nat × List Nat) := (true,[([],[]),([0],[0]),([],[]),([2],[2]),([3],[3]),([1,4,3],[1,4]),([0,1,2,3,4,5],[]),([6,5,5,0,1,2,3,4,5],[5,6])])
def bj.B5 : List Nat := [0,1,0,4,12,31,63,127]
theorem bj.aeq : gB .any (opsOf Tryz.f36 5) = bj.T5 := by kernel_rfl
theorem bj.adq : za bj.T5.2 bj.B5 = true := by kernel_rfl
theorem bj.calls (k : Nat) : ∀ (bw : Int) (bG : Int) (bu : ByteArray) (gm : Option Addr) (fh : Nat) (aN : List (aT)) (r1 : Int) (r2 : Int) (r3 : ByteArray) (r4 : List (cY)) (w : World) (Ch : Kd.C dF w gm aN.length aN) (Cm : aN.length ≤ fh) (h : bj.f k bw bG bu aN = some (r1,r2,r3,r4)),
  Calls Tryz.prog 36 #[.agg #[.int .u8 bw,.int .u64 bG,.string bu,.slice gm aN.length fh]] w fun e w' => ∃ v3_ : Value,e = .returned (.agg #[.int .u8 r1,.int .u64 r2,.string r3,v3_]) ∧ Kd.R kj 65 w' w.heap.size (fun _ => True) v3_ r4 ∧ Below w.heap.size w w' := by
 induction k using Nat.strongRecOn with
 | _ k ih=>
 intro bw bG bu gm fh aN r1 r2 r3 r4 w Ch Cm h
 cases k with
 | zero => exact absurd h (by simp [bj.f])
 | succ k=>
 simp only [bj.f] at h
 have Zb := Tryz.underlying25
 have ahW := Tryz.underlying65
 have Ub := U.mk Ch
 have adU := U.mk Cm
 clear Ch Cm
 have HB := U.mk (Below.refl w.heap.size w)
 have H : (bj.l0 k aN (aN.length : Int) 0 bw bG bu ([] : List (cY))) = some (r1,r2,r3,r4) := h
 clear h
 have H' := U.mk H
 clear H
 go_enter Tryz.func36,Tryz.ntmps36
 go_wp2_with (first | ((with_reducible refine ic (N := 1) rfl ?_); refine gv ?hg (N := 1) ?hd (cs := #[.int .u8 bw,.int .u64 bG,.string bu,.slice gm aN.length fh]) (t := 25) ?hr ?_; (case hd => rfl); (case hg => rfl); (case hr => first | (go_simp; done) | (go_simp; rfl)); intro dO hg w2 fz hb; have bM := U.mk (aw (by repeat (first | (with_reducible first | exact HB.out | apply ab | apply ai | apply ak) | exact HB.out)) hb); have cq := U.mk (fz); have dR := U.mk ((by rw [hg]; exact (br (by repeat (first | (with_reducible first | exact HB.out | apply ab | apply ai | apply ak) | exact HB.out))) : w.heap.size ≤ dO)); have eJ := U.mk ((by rw [hg]; exact (br (by repeat (first | (with_reducible first | exact HB.out | apply ab | apply ai | apply ak) | exact HB.out))) : w.heap.size ≤ dO)); clear HB; have HB := bM; have bT := cq; have ahE := dR; have gz := eJ; clear bM cq dR eJ; clear hb fz hg) | ((with_reducible refine ic (N := 2) rfl ?_); refine gv ?hg (N := 2) ?hd (cs := #[.int .u8 0,.int .u64 0,.string (⟨#[]⟩ : ByteArray),.slice none 0 0]) (t := 65) ?hr ?_; (case hd => rfl); (case hg => rfl); (case hr => first | (go_simp; done) | (go_simp; rfl)); intro db hg w3 fz hb; have bM := U.mk (ff (g := dO) (o := .cells #[.int .u8 bw,.int .u64 bG,.string bu,.slice gm aN.length fh] 25 (0,0)) (by (with_reducible repeat (first | refine aH ?_ _ | refine aI ?_ | refine aD ?_ _)); exact bT.out) hb); have cq := U.mk (aw (by repeat (first | (with_reducible first | exact HB.out | apply ab | apply ai | apply ak | refine aR ?_ gz.out) | exact HB.out)) hb); have dR := U.mk (fz); have eJ := U.mk ((by rw [hg]; exact (br (by repeat (first | (with_reducible first | exact HB.out | apply ab | apply ai | apply ak | refine aR ?_ gz.out) | exact HB.out))) : w.heap.size ≤ db)); have iH := U.mk ((by rw [hg]; exact (br (by repeat (first | (with_reducible first | exact HB.out | apply ab | apply ai | apply ak | refine aR ?_ gz.out) | exact HB.out))) : w.heap.size ≤ db)); have jx := U.mk ((by rw [hg]; exact Nat.ne_of_lt (fB (g := dO) (o := .cells #[.int .u8 bw,.int .u64 bG,.string bu,.slice gm aN.length fh] 25 (0,0)) (by (with_reducible repeat (first | refine aH ?_ _ | refine aI ?_ | refine aD ?_ _)); exact bT.out)) : dO ≠ db)); have Bk := U.mk ((by rw [hg]; exact Nat.ne_of_gt (fB (g := dO) (o := .cells #[.int .u8 bw,.int .u64 bG,.string bu,.slice gm aN.length fh] 25 (0,0)) (by (with_reducible repeat (first | refine aH ?_ _ | refine aI ?_ | refine aD ?_ _)); exact bT.out)) : db ≠ dO)); clear bT; clear HB; have bT := bM; have HB := cq; have cQ := dR; have ahD := eJ; have iR := iH; have GU := jx; have GR := Bk; clear bM cq dR eJ iH jx Bk; clear hb fz hg; have aia := GU.out; have ah8 := GR.out; have ZG : w3.cell? ⟨dO,0,none⟩ = some (.int .u8 bw) := (aK bT.out 0).trans rfl; have ZE : w3.cell? ⟨dO,1,none⟩ = some (.int .u64 bG) := (aK bT.out 1).trans rfl; have ZD : w3.cell? ⟨dO,2,none⟩ = some (.string bu) := (aK bT.out 2).trans rfl; have ZC : w3.cell? ⟨dO,3,none⟩ = some (.slice gm aN.length fh) := (aK bT.out 3).trans rfl; have Zy := aY bT.out 0; have Zx := aY bT.out 1; have Zw := aY bT.out 2; have Zv := aY bT.out 3) | ((with_reducible refine ic (N := 3) rfl ?_); refine gv ?hg (N := 3) ?hd (cs := #[.int .u8 0,.int .u64 0,.string (⟨#[]⟩ : ByteArray),.slice none 0 0]) (t := 65) ?hr ?_; (case hd => rfl); (case hg => rfl); (case hr => first | (go_simp; done) | (go_simp; rfl)); intro cV hg w6 fz hb; have bM := U.mk (ff (g := dO) (o := .cells #[.int .u8 bw,.int .u64 bG,.string bu,.slice gm aN.length fh] 25 (0,0)) (by (with_reducible repeat (first | refine aH ?_ _ | refine aI ?_ | refine aD ?_ _)); exact bT.out) hb); have cq := U.mk (ff (g := db) (o := .cells #[.int .u8 0,.int .u64 0,.string (⟨#[]⟩ : ByteArray),.slice none 0 0] 65 (0,0)) (by (with_reducible repeat (first | refine aH ?_ _ | refine aI ?_ | refine aD ?_ _)); exact cQ.out) hb); have dR := U.mk (aw (by repeat (first | (with_reducible first | exact HB.out | apply ab | apply ai | apply ak | refine aR ?_ gz.out | refine aR ?_ iR.out) | exact HB.out)) hb); have eJ := U.mk (fz); have iH := U.mk ((by rw [hg]; exact (br (by repeat (first | (with_reducible first | exact HB.out | apply ab | apply ai | apply ak | refine aR ?_ gz.out | refine aR ?_ iR.out) | exact HB.out))) : w.heap.size ≤ cV)); have jx := U.mk ((by rw [hg]; exact (br (by repeat (first | (with_reducible first | exact HB.out | apply ab | apply ai | apply ak | refine aR ?_ gz.out | refine aR ?_ iR.out) | exact HB.out))) : w.heap.size ≤ cV)); have Bk := U.mk ((by rw [hg]; exact Nat.ne_of_lt (fB (g := dO) (o := .cells #[.int .u8 bw,.int .u64 bG,.string bu,.slice gm aN.length fh] 25 (0,0)) (by (with_reducible repeat (first | refine aH ?_ _ | refine aI ?_ | refine aD ?_ _)); exact bT.out)) : dO ≠ cV)); have Nw := U.mk ((by rw [hg]; exact Nat.ne_of_gt (fB (g := dO) (o := .cells #[.int .u8 bw,.int .u64 bG,.string bu,.slice gm aN.length fh] 25 (0,0)) (by (with_reducible repeat (first | refine aH ?_ _ | refine aI ?_ | refine aD ?_ _)); exact bT.out)) : cV ≠ dO)); have Nv := U.mk ((by rw [hg]; exact Nat.ne_of_lt (fB (g := db) (o := .cells #[.int .u8 0,.int .u64 0,.string (⟨#[]⟩ : ByteArray),.slice none 0 0] 65 (0,0)) (by (with_reducible repeat (first | refine aH ?_ _ | refine aI ?_ | refine aD ?_ _)); exact cQ.out)) : db ≠ cV)); have Nu := U.mk ((by rw [hg]; exact Nat.ne_of_gt (fB (g := db) (o := .cells #[.int .u8 0,.int .u64 0,.string (⟨#[]⟩ : ByteArray),.slice none 0 0] 65 (0,0)) (by (with_reducible repeat (first | refine aH ?_ _ | refine aI ?_ | refine aD ?_ _)); exact cQ.out)) : cV ≠ db)); clear bT; clear cQ; clear HB; have bT := bM; have cQ := cq; have HB := dR; have bB := eJ; have ahC := iH; have kh := jx; have gY := Bk; have BP := Nw; have gX := Nv; have BO := Nu; clear bM cq dR eJ iH jx Bk Nw Nv Nu; clear hb fz hg; have ah' := BP.out; have ah7 := gY.out; have ah9 := BO.out; have ah6 := gX.out; have Jt : w6.cell? ⟨cV,0,none⟩ = some (.int .u8 0) := (aK bB.out 0).trans rfl; have Js : w6.cell? ⟨cV,1,none⟩ = some (.int .u64 0) := (aK bB.out 1).trans rfl; have Jr : w6.cell? ⟨cV,2,none⟩ = some (.string (⟨#[]⟩ : ByteArray)) := (aK bB.out 2).trans rfl; have Ow : w6.cell? ⟨cV,3,none⟩ = some (.slice none 0 0) := (aK bB.out 3).trans rfl; have Jl := aY bB.out 0; have Jk := aY bB.out 1; have Jj := aY bB.out 2; have Ou := aY bB.out 3; have U1 : w6.cell? ⟨dO,0,none⟩ = some (.int .u8 bw) := (aK bT.out 0).trans rfl; have U0 : w6.cell? ⟨dO,1,none⟩ = some (.int .u64 bG) := (aK bT.out 1).trans rfl; have UZ : w6.cell? ⟨dO,2,none⟩ = some (.string bu) := (aK bT.out 2).trans rfl; have UY : w6.cell? ⟨dO,3,none⟩ = some (.slice gm aN.length fh) := (aK bT.out 3).trans rfl; have UX := aY bT.out 0; have UW := aY bT.out 1; have UU := aY bT.out 2; have UT := aY bT.out 3))
 go_loopg [16] k (fun kq MM w' => ∃ (bg : Int) (fx : List (cY)) (eu : Value),MM = .int .i64 bg ∧ U (bj.l0 kq aN (aN.length : Int) bg bw bG bu fx = some (r1,r2,r3,r4)) ∧ U (kq ≤ k) ∧ U (Kd.R kj 65 w' w.heap.size (fun k_ => k_ ≠ db ∧ k_ ≠ cV) eu fx) ∧ U (w'.heap[dO]? = some (.cells #[.int .u8 bw,.int .u64 bG,.string bu,(.slice gm aN.length fh)] 25 (0,0))) ∧ U (w'.heap[db]? = some (.cells #[.int .u8 0,.int .u64 0,.string (⟨#[]⟩ : ByteArray),(.slice none 0 0)] 65 (0,0))) ∧ U (w'.heap[cV]? = some (.cells #[.int .u8 bw,.int .u64 bG,.string bu,eu] 65 (0,0))) ∧ U (Below w.heap.size w w'))
 case atStart => exact ⟨(0),(([] : List (cY))),(.slice none 0 0),(by first | rfl | (simp; done) | (simp [*]; done)),H', ⟨Nat.le_refl _⟩,⟨by first | exact Kd.Ax _ _ _ _ _ | exact Kd.CZ _ _ _ _ _ | exact Kd.CR _ _ _ _ _ | exact Kd.CY _ _ _ _ _ | exact Kd.CV _ _ _ _ _⟩,⟨by (with_reducible repeat (first | refine aH ?_ _ | refine aI ?_ | refine aD ?_ _)); refine dz ?_ gY.out _; (with_reducible repeat (first | refine aH ?_ _ | refine aI ?_ | refine aD ?_ _)); refine dz ?_ gY.out _; (with_reducible repeat (first | refine aH ?_ _ | refine aI ?_ | refine aD ?_ _)); refine dz ?_ gY.out _; (with_reducible repeat (first | refine aH ?_ _ | refine aI ?_ | refine aD ?_ _)); refine dz ?_ gY.out _; (with_reducible repeat (first | refine aH ?_ _ | refine aI ?_ | refine aD ?_ _)); exact bT.out⟩,⟨by (with_reducible repeat (first | refine aH ?_ _ | refine aI ?_ | refine aD ?_ _)); refine dz ?_ gX.out _; (with_reducible repeat (first | refine aH ?_ _ | refine aI ?_ | refine aD ?_ _)); refine dz ?_ gX.out _; (with_reducible repeat (first | refine aH ?_ _ | refine aI ?_ | refine aD ?_ _)); refine dz ?_ gX.out _; (with_reducible repeat (first | refine aH ?_ _ | refine aI ?_ | refine aD ?_ _)); refine dz ?_ gX.out _; (with_reducible repeat (first | refine aH ?_ _ | refine aI ?_ | refine aD ?_ _)); exact cQ.out⟩,⟨by (with_reducible repeat (first | refine aH ?_ _ | refine aI ?_ | refine aD ?_ _)); refine dV (cs := #[.int .u8 bw,.int .u64 bG,.string bu,.slice none 0 0]) ?_ 3 _ rfl; (with_reducible repeat (first | refine aH ?_ _ | refine aI ?_ | refine aD ?_ _)); refine dV (cs := #[.int .u8 bw,.int .u64 bG,.string (⟨#[]⟩ : ByteArray),.slice none 0 0]) ?_ 2 _ rfl; (with_reducible repeat (first | refine aH ?_ _ | refine aI ?_ | refine aD ?_ _)); refine dV (cs := #[.int .u8 bw,.int .u64 0,.string (⟨#[]⟩ : ByteArray),.slice none 0 0]) ?_ 1 _ rfl; (with_reducible repeat (first | refine aH ?_ _ | refine aI ?_ | refine aD ?_ _)); refine dV (cs := #[.int .u8 0,.int .u64 0,.string (⟨#[]⟩ : ByteArray),.slice none 0 0]) ?_ 0 _ rfl; (with_reducible repeat (first | refine aH ?_ _ | refine aI ?_ | refine aD ?_ _)); exact bB.out⟩,⟨by repeat (first | (with_reducible first | exact HB.out | apply ab | apply ai | apply ak | refine aR ?_ gz.out | refine aR ?_ iR.out | refine aR ?_ kh.out) | exact HB.out)⟩⟩
 case round=>
  clear H'
  try clear p2
  try clear c3
  try clear c4
  try clear c7
  try clear c8
  try clear U1
  try clear U0
  try clear UZ
  try clear UY
  try clear ZG
  try clear ZE
  try clear ZD
  try clear ZC
  try clear Jt
  try clear Js
  try clear Jr
  try clear Ow
  try clear UX
  try clear UW
  try clear UU
  try clear UT
  try clear Zy
  try clear Zx
  try clear Zw
  try clear Zv
  try clear Jl
  try clear Jk
  try clear Jj
  try clear Ou
  obtain ⟨bg,fx,eu,rfl,HA,fu,cD,bT,cQ,bB,HB⟩ := hrel
  cases gk with
  | zero => exact absurd HA.out (by simp [bj.l0])
  | succ k1=>
   have H := HA.out
   clear HA
   simp only [bj.l0] at H
   by_cases bE : bg < (aN.length : Int)
   ·rw [if_pos bE] at H
    have dJ : decide (bg < (aN.length : Int)) = true := decide_eq_true bE
    clear bE
    by_cases bP : 0 ≤ bg
    ·rw [if_pos bP] at H
     have fj : decide (0 ≤ bg) = true := decide_eq_true bP
     clear bP
     by_cases bV : bg < (aN.length : Int)
     ·rw [if_pos bV] at H
      have dP : decide (bg < (aN.length : Int)) = true := decide_eq_true bV
      clear bV
      replace H := Option.bind_eq_some_iff.mp H
      obtain ⟨⟨t221,t222,t223,t224⟩,acm,H⟩ := H
      replace H : (if fx.length < 2513169434916 then (bj.l0 k1 aN (aN.length : Int) (wrap64 (bg + 1)) bw bG bu (fx ++ [(⟨t221,t222,t223,t224⟩ : cY)])) else (none)) = some (r1,r2,r3,r4) := H
      have A14 := U.mk acm
      clear acm
      by_cases dU : fx.length < 2513169434916
      ·rw [if_pos dU] at H
       have adL := U.mk dU
       clear dU
       obtain ⟨LF,Eh⟩ : ∃ y_ : List (cY),y_ = (fx ++ [(⟨t221,t222,t223,t224⟩ : cY)]) := ⟨_,rfl⟩
       replace H : (bj.l0 k1 aN (aN.length : Int) (wrap64 (bg + 1)) bw bG bu LF) = some (r1,r2,r3,r4) := by first | (rw [Eh]; with_reducible exact H) | (have jb := (Option.bind_some _ _).symm.trans H; rw [Eh]; with_reducible exact jb) | (have jb := (Option.bind_some _ _).symm.trans H; with_reducible exact jb) | with_reducible exact H | (rw [Eh]; exact H) | exact H
       have adE := U.mk Eh
       clear Eh
       have H' := U.mk H
       clear H
       have Qk : 0 ≤ (bg : Int) := of_decide_eq_true (by first | (with_reducible assumption) | assumption)
       have Qg : bg < (aN.length : Int) := of_decide_eq_true (by first | (with_reducible assumption) | assumption)
       obtain ⟨CQ,gS,gO,afz,FO,FN,FM,FJ,KX,K8⟩ := EM Ub.out bg Qk Qg
       cases afz
       replace FO := (HB.out.cell (World.block_lt_of_cell? w _ FO)).trans FO
       replace FN := (HB.out.cell (World.block_lt_of_cell? w _ FN)).trans FN
       replace FM := (HB.out.cell (World.block_lt_of_cell? w _ FM)).trans FM
       replace FJ := (HB.out.cell (World.block_lt_of_cell? w _ FJ)).trans FJ
       have WM := U.mk K8
       have WO := U.mk KX
       clear K8 KX
       replace Qk := eq_true Qk
       replace Qg := eq_true Qg
       try go_wp2_with (first | ((with_reducible refine ic (N := 5) rfl ?_); refine gv ?hg (N := 5) ?hd (cs := #[.int .u8 0,.int .u64 0,.string (⟨#[]⟩ : ByteArray),.slice none 0 0]) (t := 25) ?hr ?_; (case hd => rfl); (case hg => rfl); (case hr => first | (go_simp; done) | (go_simp; rfl)); intro bO hg lR fz hb; have bM := U.mk (Kd.zO (by (with_reducible repeat (first | apply Kd.cu | apply Kd.cJ | apply Kd.de)); exact cD.out) hb); have cq := U.mk (ff (g := dO) (o := .cells #[.int .u8 bw,.int .u64 bG,.string bu,.slice (some CQ) aN.length fh] 25 (0,0)) (by (with_reducible repeat (first | refine aH ?_ _ | refine aI ?_ | refine aD ?_ _)); exact bT.out) hb); have dR := U.mk (ff (g := db) (o := .cells #[.int .u8 0,.int .u64 0,.string (⟨#[]⟩ : ByteArray),.slice none 0 0] 65 (0,0)) (by (with_reducible repeat (first | refine aH ?_ _ | refine aI ?_ | refine aD ?_ _)); exact cQ.out) hb); have eJ := U.mk (ff (g := cV) (o := .cells #[.int .u8 bw,.int .u64 bG,.string bu,eu] 65 (0,0)) (by (with_reducible repeat (first | refine aH ?_ _ | refine aI ?_ | refine aD ?_ _)); exact bB.out) hb); have iH := U.mk (aw (by repeat (first | (with_reducible first | exact HB.out | apply ab | apply ai | apply ak | refine aR ?_ gz.out | refine aR ?_ iR.out | refine aR ?_ kh.out) | exact HB.out)) hb); have jx := U.mk (fz); have Bk := U.mk ((by rw [hg]; exact (br (by repeat (first | (with_reducible first | exact HB.out | apply ab | apply ai | apply ak | refine aR ?_ gz.out | refine aR ?_ iR.out | refine aR ?_ kh.out) | exact HB.out))) : w.heap.size ≤ bO)); have Nw := U.mk ((by rw [hg]; exact (br (by repeat (first | (with_reducible first | exact HB.out | apply ab | apply ai | apply ak | refine aR ?_ gz.out | refine aR ?_ iR.out | refine aR ?_ kh.out) | exact HB.out))) : w.heap.size ≤ bO)); have Nv := U.mk ((by rw [hg]; exact Nat.ne_of_lt (fB (g := dO) (o := .cells #[.int .u8 bw,.int .u64 bG,.string bu,.slice (some CQ) aN.length fh] 25 (0,0)) (by (with_reducible repeat (first | refine aH ?_ _ | refine aI ?_ | refine aD ?_ _)); exact bT.out)) : dO ≠ bO)); have Nu := U.mk ((by rw [hg]; exact Nat.ne_of_gt (fB (g := dO) (o := .cells #[.int .u8 bw,.int .u64 bG,.string bu,.slice (some CQ) aN.length fh] 25 (0,0)) (by (with_reducible repeat (first | refine aH ?_ _ | refine aI ?_ | refine aD ?_ _)); exact bT.out)) : bO ≠ dO)); have Yz := U.mk ((by rw [hg]; exact Nat.ne_of_lt (fB (g := db) (o := .cells #[.int .u8 0,.int .u64 0,.string (⟨#[]⟩ : ByteArray),.slice none 0 0] 65 (0,0)) (by (with_reducible repeat (first | refine aH ?_ _ | refine aI ?_ | refine aD ?_ _)); exact cQ.out)) : db ≠ bO)); have Yy := U.mk ((by rw [hg]; exact Nat.ne_of_gt (fB (g := db) (o := .cells #[.int .u8 0,.int .u64 0,.string (⟨#[]⟩ : ByteArray),.slice none 0 0] 65 (0,0)) (by (with_reducible repeat (first | refine aH ?_ _ | refine aI ?_ | refine aD ?_ _)); exact cQ.out)) : bO ≠ db)); have Yx := U.mk ((by rw [hg]; exact Nat.ne_of_lt (fB (g := cV) (o := .cells #[.int .u8 bw,.int .u64 bG,.string bu,eu] 65 (0,0)) (by (with_reducible repeat (first | refine aH ?_ _ | refine aI ?_ | refine aD ?_ _)); exact bB.out)) : cV ≠ bO)); have Yw := U.mk ((by rw [hg]; exact Nat.ne_of_gt (fB (g := cV) (o := .cells #[.int .u8 bw,.int .u64 bG,.string bu,eu] 65 (0,0)) (by (with_reducible repeat (first | refine aH ?_ _ | refine aI ?_ | refine aD ?_ _)); exact bB.out)) : bO ≠ cV)); clear cD; clear bT; clear cQ; clear bB; clear HB; have cD := bM; have bT := cq; have cQ := dR; have bB := eJ; have HB := iH; have cF := jx; have ahB := Bk; have C5 := Nw; have kY := Nv; have Pz := Nu; have kX := Yz; have Py := Yy; have jR := Yx; have GQ := Yw; clear bM cq dR eJ iH jx Bk Nw Nv Nu Yz Yy Yx Yw; clear hb fz hg; have ahi := Pz.out; have ahc := kY.out; have ahh := Py.out; have ahb := kX.out; have ahg := GQ.out; have aha := jR.out; have agz : lR.cell? ⟨bO,0,none⟩ = some (.int .u8 0) := (aK cF.out 0).trans rfl; have agy : lR.cell? ⟨bO,1,none⟩ = some (.int .u64 0) := (aK cF.out 1).trans rfl; have agx : lR.cell? ⟨bO,2,none⟩ = some (.string (⟨#[]⟩ : ByteArray)) := (aK cF.out 2).trans rfl; have agw : lR.cell? ⟨bO,3,none⟩ = some (.slice none 0 0) := (aK cF.out 3).trans rfl; have agn := aY cF.out 0; have agm := aY cF.out 1; have agl := aY cF.out 2; have agk := aY cF.out 3))
       have bM : U (Kd.R kj 65 ((((lR.setCell ⟨bO,0,none⟩ (.int .u8 ((aA aN bg).f0))).setCell ⟨bO,1,none⟩ (.int .u64 ((aA aN bg).f1))).setCell ⟨bO,2,none⟩ (.string ((aA aN bg).f2))).setCell ⟨bO,3,none⟩ (.slice gS ((aA aN bg).f3).length gO)) w.heap.size (fun k_ => k_ ≠ db ∧ k_ ≠ cV) eu fx) := ⟨by (with_reducible repeat (first | apply Kd.cu | apply Kd.cJ | apply Kd.de)); exact Kd.fC (Kd.gx (p := ⟨bO,3,none⟩) (Kd.gx (p := ⟨bO,2,none⟩) (Kd.gx (p := ⟨bO,1,none⟩) (Kd.gx (p := ⟨bO,0,none⟩) (Kd.F5 cD.out cF.out (by decide)) (fun _ hk => hk.2) (.int .u8 ((aA aN bg).f0))) (fun _ hk => hk.2) (.int .u64 ((aA aN bg).f1))) (fun _ hk => hk.2) (.string ((aA aN bg).f2))) (fun _ hk => hk.2) (.slice gS ((aA aN bg).f3).length gO)) (fun _ hk => ⟨hk.1.1,hk.1.2⟩)⟩
       have cq : U (((((lR.setCell ⟨bO,0,none⟩ (.int .u8 ((aA aN bg).f0))).setCell ⟨bO,1,none⟩ (.int .u64 ((aA aN bg).f1))).setCell ⟨bO,2,none⟩ (.string ((aA aN bg).f2))).setCell ⟨bO,3,none⟩ (.slice gS ((aA aN bg).f3).length gO)).heap[dO]? = some (.cells #[.int .u8 bw,.int .u64 bG,.string bu,.slice (some CQ) aN.length fh] 25 (0,0))) := ⟨by (with_reducible repeat (first | refine aH ?_ _ | refine aI ?_ | refine aD ?_ _)); refine dz ?_ kY.out _; (with_reducible repeat (first | refine aH ?_ _ | refine aI ?_ | refine aD ?_ _)); refine dz ?_ kY.out _; (with_reducible repeat (first | refine aH ?_ _ | refine aI ?_ | refine aD ?_ _)); refine dz ?_ kY.out _; (with_reducible repeat (first | refine aH ?_ _ | refine aI ?_ | refine aD ?_ _)); refine dz ?_ kY.out _; (with_reducible repeat (first | refine aH ?_ _ | refine aI ?_ | refine aD ?_ _)); exact bT.out⟩
       have dR : U (((((lR.setCell ⟨bO,0,none⟩ (.int .u8 ((aA aN bg).f0))).setCell ⟨bO,1,none⟩ (.int .u64 ((aA aN bg).f1))).setCell ⟨bO,2,none⟩ (.string ((aA aN bg).f2))).setCell ⟨bO,3,none⟩ (.slice gS ((aA aN bg).f3).length gO)).heap[db]? = some (.cells #[.int .u8 0,.int .u64 0,.string (⟨#[]⟩ : ByteArray),.slice none 0 0] 65 (0,0))) := ⟨by (with_reducible repeat (first | refine aH ?_ _ | refine aI ?_ | refine aD ?_ _)); refine dz ?_ kX.out _; (with_reducible repeat (first | refine aH ?_ _ | refine aI ?_ | refine aD ?_ _)); refine dz ?_ kX.out _; (with_reducible repeat (first | refine aH ?_ _ | refine aI ?_ | refine aD ?_ _)); refine dz ?_ kX.out _; (with_reducible repeat (first | refine aH ?_ _ | refine aI ?_ | refine aD ?_ _)); refine dz ?_ kX.out _; (with_reducible repeat (first | refine aH ?_ _ | refine aI ?_ | refine aD ?_ _)); exact cQ.out⟩
       have eJ : U (((((lR.setCell ⟨bO,0,none⟩ (.int .u8 ((aA aN bg).f0))).setCell ⟨bO,1,none⟩ (.int .u64 ((aA aN bg).f1))).setCell ⟨bO,2,none⟩ (.string ((aA aN bg).f2))).setCell ⟨bO,3,none⟩ (.slice gS ((aA aN bg).f3).length gO)).heap[cV]? = some (.cells #[.int .u8 bw,.int .u64 bG,.string bu,eu] 65 (0,0))) := ⟨by (with_reducible repeat (first | refine aH ?_ _ | refine aI ?_ | refine aD ?_ _)); refine dz ?_ jR.out _; (with_reducible repeat (first | refine aH ?_ _ | refine aI ?_ | refine aD ?_ _)); refine dz ?_ jR.out _; (with_reducible repeat (first | refine aH ?_ _ | refine aI ?_ | refine aD ?_ _)); refine dz ?_ jR.out _; (with_reducible repeat (first | refine aH ?_ _ | refine aI ?_ | refine aD ?_ _)); refine dz ?_ jR.out _; (with_reducible repeat (first | refine aH ?_ _ | refine aI ?_ | refine aD ?_ _)); exact bB.out⟩
       have iH : U (((((lR.setCell ⟨bO,0,none⟩ (.int .u8 ((aA aN bg).f0))).setCell ⟨bO,1,none⟩ (.int .u64 ((aA aN bg).f1))).setCell ⟨bO,2,none⟩ (.string ((aA aN bg).f2))).setCell ⟨bO,3,none⟩ (.slice gS ((aA aN bg).f3).length gO)).heap[bO]? = some (.cells #[.int .u8 ((aA aN bg).f0),.int .u64 ((aA aN bg).f1),.string ((aA aN bg).f2),.slice gS ((aA aN bg).f3).length gO] 25 (0,0))) := ⟨by (with_reducible repeat (first | refine aH ?_ _ | refine aI ?_ | refine aD ?_ _)); refine dV (cs := #[.int .u8 ((aA aN bg).f0),.int .u64 ((aA aN bg).f1),.string ((aA aN bg).f2),.slice none 0 0]) ?_ 3 _ rfl; (with_reducible repeat (first | refine aH ?_ _ | refine aI ?_ | refine aD ?_ _)); refine dV (cs := #[.int .u8 ((aA aN bg).f0),.int .u64 ((aA aN bg).f1),.string (⟨#[]⟩ : ByteArray),.slice none 0 0]) ?_ 2 _ rfl; (with_reducible repeat (first | refine aH ?_ _ | refine aI ?_ | refine aD ?_ _)); refine dV (cs := #[.int .u8 ((aA aN bg).f0),.int .u64 0,.string (⟨#[]⟩ : ByteArray),.slice none 0 0]) ?_ 1 _ rfl; (with_reducible repeat (first | refine aH ?_ _ | refine aI ?_ | refine aD ?_ _)); refine dV (cs := #[.int .u8 0,.int .u64 0,.string (⟨#[]⟩ : ByteArray),.slice none 0 0]) ?_ 0 _ rfl; (with_reducible repeat (first | refine aH ?_ _ | refine aI ?_ | refine aD ?_ _)); exact cF.out⟩
       have jx : U (Below w.heap.size w ((((lR.setCell ⟨bO,0,none⟩ (.int .u8 ((aA aN bg).f0))).setCell ⟨bO,1,none⟩ (.int .u64 ((aA aN bg).f1))).setCell ⟨bO,2,none⟩ (.string ((aA aN bg).f2))).setCell ⟨bO,3,none⟩ (.slice gS ((aA aN bg).f3).length gO))) := ⟨by repeat (first | (with_reducible first | exact HB.out | apply ab | apply ai | apply ak | refine aR ?_ gz.out | refine aR ?_ iR.out | refine aR ?_ kh.out | refine aR ?_ C5.out) | exact HB.out)⟩
       (try clear cD)
       (try clear bT)
       (try clear cQ)
       (try clear bB)
       (try clear cF)
       (try clear HB)
       generalize ((((lR.setCell ⟨bO,0,none⟩ (.int .u8 ((aA aN bg).f0))).setCell ⟨bO,1,none⟩ (.int .u64 ((aA aN bg).f1))).setCell ⟨bO,2,none⟩ (.string ((aA aN bg).f2))).setCell ⟨bO,3,none⟩ (.slice gS ((aA aN bg).f3).length gO)) = w21 at bM cq dR eJ iH jx ⊢
       have cD := bM
       have bT := cq
       have cQ := dR
       have bB := eJ
       have cF := iH
       have HB := jx
       clear bM cq dR eJ iH jx
       have bM := U.mk (Kd.de cD.out)
       have cq := U.mk (aI bT.out)
       have dR := U.mk (aI cQ.out)
       have eJ := U.mk (aI bB.out)
       have iH := U.mk (aI cF.out)
       have jx := U.mk (ak HB.out)
       clear cD
       clear bT
       clear cQ
       clear bB
       clear cF
       clear HB
       have cD := bM
       have bT := cq
       have cQ := dR
       have bB := eJ
       have cF := iH
       have HB := jx
       clear bM cq dR eJ iH jx
       refine Yj (n := 8) (S := fun w' => w'.cell? ⟨cV,0,none⟩ = some (.int .u8 bw) ∧ w'.cell? ⟨cV,1,none⟩ = some (.int .u64 bG) ∧ w'.cell? ⟨cV,2,none⟩ = some (.string bu) ∧ w'.cell? ⟨cV,3,none⟩ = some (eu) ∧ w'.cell? ⟨bO,0,none⟩ = some (.int .u8 ((aA aN bg).f0)) ∧ w'.cell? ⟨bO,1,none⟩ = some (.int .u64 ((aA aN bg).f1)) ∧ w'.cell? ⟨bO,2,none⟩ = some (.string ((aA aN bg).f2)) ∧ w'.cell? ⟨bO,3,none⟩ = some (.slice gS ((aA aN bg).f3).length gO)) (ds := [7]) #[false,false,false,false,false,false,false,false] (by kernel_rfl) rfl rfl ⟨(aK bB.out 0).trans rfl,(aK bB.out 1).trans rfl,(aK bB.out 2).trans rfl,(aK bB.out 3).trans rfl,(aK cF.out 0).trans rfl,(aK cF.out 1).trans rfl,(aK cF.out 2).trans rfl,(aK cF.out 3).trans rfl⟩ (fun hHeld => ?_); refine MK bj.aeq bj.adq (fun E6 HW_ => ?_)
       generalize w21.drew = w22 at cD bT cQ bB cF HB hHeld ⊢
       refine S5 (i := 0) (N := some 20) (v := ?_) (a' := ?_) #[true,false,false,false,false,false,false,false] rfl rfl (Pq E6.out (by kernel_rfl)) (fun _ _ _ h => h) (Or.inl ⟨by rfl,?_⟩) ?_ ?_
       rotate_left
       ·intro w'
        go_simp
        with_reducible rfl
       rotate_left
       ·simp only [Act.put,List.setIfInBounds_toArray,List.set_cons_zero,List.set_cons_succ,cL,dr]
        rfl
       refine SU (i := 1) (N := some 21) (v := ?_) (a' := ?_) #[true,true,false,false,false,false,false,false] rfl rfl (Ie E6.out HW_.out (by kernel_rfl)) (fun _ _ _ h => h) (Or.inl ⟨by rfl,?_⟩) hHeld ?_ ?_
       rotate_left
       ·rintro w' ⟨s0,s1,s2,s3,s4,s5,s6,s7⟩
        go_simp
        with_reducible rfl
       rotate_left
       ·simp only [Act.put,List.setIfInBounds_toArray,List.set_cons_zero,List.set_cons_succ,cL,dr]
        rfl
       refine SU (i := 2) (N := some 22) (v := ?_) (a' := ?_) #[true,true,true,false,false,false,false,false] rfl rfl (Ie E6.out HW_.out (by kernel_rfl)) (fun _ _ _ h => h) (Or.inl ⟨by rfl,?_⟩) hHeld ?_ ?_
       rotate_left
       ·rintro w' ⟨s0,s1,s2,s3,s4,s5,s6,s7⟩
        go_simp
        with_reducible rfl
       rotate_left
       ·simp only [Act.put,List.setIfInBounds_toArray,List.set_cons_zero,List.set_cons_succ,cL,dr]
        rfl
       refine Qr (i := 3) (N := some 23) #[true,true,true,true,false,false,false,false] rfl rfl (D8 E6.out (by kernel_rfl)) (by decide) (fun K hK => ?_)
       refine ac2 Tryz.func36 (by kernel_rfl) rfl #[.agg #[.int .u8 ((aA aN bg).f0),.int .u64 ((aA aN bg).f1),.string ((aA aN bg).f2),.slice gS ((aA aN bg).f3).length gO]] (by rfl) rfl rfl (by (try simp only [List.map_toArray,List.map_cons,List.map_nil]); first | done | rfl | (simp only [List.length_drop,List.length_take]; rfl)) ?_
       with_reducible refine (ih k1 (by have := fu.out; omega) ((aA aN bg).f0) ((aA aN bg).f1) ((aA aN bg).f2) _ _ ((aA aN bg).f3) t221 t222 t223 t224 _ ?side1 ?side2 A14.out).mono ?_
       (case side1 => repeat (first | exact (Kd.bD WM.out HB.out) | (with_reducible refine Kd.agB ?_ _) | (with_reducible refine Kd.agA ?_ _) | (with_reducible refine Kd.ag7 ?_)))
       (case side2 => exact WO.out)
       rintro e w23 ⟨ahH,rfl,jX,hb⟩
       refine ⟨_,rfl,?_⟩
       have bM := U.mk (Kd.JX (by (with_reducible repeat (first | apply Kd.cu | apply Kd.cJ | apply Kd.de)); exact cD.out) (Kd.Pw jX) hb)
       have cq := U.mk (Kd.kB (Kd.Pu (Kd.Pu (Kd.Pv jX (Kd.ab5 (by (with_reducible repeat (first | apply Kd.cu | apply Kd.cJ | apply Kd.de)); exact cD.out))) (g := db) (o := .cells #[.int .u8 0,.int .u64 0,.string (⟨#[]⟩ : ByteArray),.slice none 0 0] 65 (0,0)) (by (with_reducible repeat (first | refine aH ?_ _ | refine aI ?_ | refine aD ?_ _)); exact cQ.out)) (g := cV) (o := .cells #[.int .u8 bw,.int .u64 bG,.string bu,eu] 65 (0,0)) (by (with_reducible repeat (first | refine aH ?_ _ | refine aI ?_ | refine aD ?_ _)); exact bB.out)) (br (by repeat (first | (with_reducible first | exact HB.out | apply ab | apply ai | apply ak | refine aR ?_ gz.out | refine aR ?_ iR.out | refine aR ?_ kh.out | refine aR ?_ C5.out) | exact HB.out))))
       have dR := U.mk (ff (g := dO) (o := .cells #[.int .u8 bw,.int .u64 bG,.string bu,.slice (some CQ) aN.length fh] 25 (0,0)) (by (with_reducible repeat (first | refine aH ?_ _ | refine aI ?_ | refine aD ?_ _)); exact bT.out) hb)
       have eJ := U.mk (ff (g := db) (o := .cells #[.int .u8 0,.int .u64 0,.string (⟨#[]⟩ : ByteArray),.slice none 0 0] 65 (0,0)) (by (with_reducible repeat (first | refine aH ?_ _ | refine aI ?_ | refine aD ?_ _)); exact cQ.out) hb)
       have iH := U.mk (ff (g := cV) (o := .cells #[.int .u8 bw,.int .u64 bG,.string bu,eu] 65 (0,0)) (by (with_reducible repeat (first | refine aH ?_ _ | refine aI ?_ | refine aD ?_ _)); exact bB.out) hb)
       have jx := U.mk (ff (g := bO) (o := .cells #[.int .u8 ((aA aN bg).f0),.int .u64 ((aA aN bg).f1),.string ((aA aN bg).f2),.slice gS ((aA aN bg).f3).length gO] 25 (0,0)) (by (with_reducible repeat (first | refine aH ?_ _ | refine aI ?_ | refine aD ?_ _)); exact cF.out) hb)
       have Bk := U.mk (aw (by repeat (first | (with_reducible first | exact HB.out | apply ab | apply ai | apply ak | refine aR ?_ gz.out | refine aR ?_ iR.out | refine aR ?_ kh.out | refine aR ?_ C5.out) | exact HB.out)) hb)
       clear cD
       clear bT
       clear cQ
       clear bB
       clear cF
       clear HB
       have cD := bM
       have My := cq
       have bT := dR
       have cQ := eJ
       have bB := iH
       have cF := jx
       have HB := Bk
       clear bM cq dR eJ iH jx Bk
       (try clear hb)
       (try clear hb2)
       (try clear hk)
       (try clear hi)
       (try clear jX)
       obtain ⟨af2,afB,aaq⟩ := Kd.kA My.out
       (first | subst aaq | (injection aaq with OW f2_ OV; have f4_ := OW.symm; have f5_ := OV.symm; clear OW f2_ OV; subst f4_; subst f5_))
       refine hK.out _ _ ⟨(aK bB.out 0).trans rfl,(aK bB.out 1).trans rfl,(aK bB.out 2).trans rfl,(aK bB.out 3).trans rfl,(aK cF.out 0).trans rfl,(aK cF.out 1).trans rfl,(aK cF.out 2).trans rfl,(aK cF.out 3).trans rfl⟩ (fun hHeld => ?_)
       clear hK K
       refine LS (a' := ?_) ?_ ?_
       rotate_left
       ·show Act.put _ (some 23) _ = _
        simp only [Act.put,List.setIfInBounds_toArray,List.set_cons_zero,List.set_cons_succ,cL,dr]
        rfl
       refine Qr (i := 4) (N := some 24) #[true,true,true,true,true,false,false,false] rfl rfl (D8 E6.out (by kernel_rfl)) (by decide) (fun K hK => ?_)
       refine Xq (w1 := ?_) (v := ?_) (by rfl) rfl ?_ ?_
       rotate_left 2
       ·go_simp
        constructor
        ·rfl
        ·rfl
       refine hK.out _ _ ⟨(aK (aD bB.out _) 0).trans rfl,(aK (aD bB.out _) 1).trans rfl,(aK (aD bB.out _) 2).trans rfl,(aK (aD bB.out _) 3).trans rfl,(aK (aD cF.out _) 0).trans rfl,(aK (aD cF.out _) 1).trans rfl,(aK (aD cF.out _) 2).trans rfl,(aK (aD cF.out _) 3).trans rfl⟩ (fun hHeld => ?_)
       clear hK K
       refine LS (a' := ?_) ?_ ?_
       rotate_left
       ·show Act.put _ (some 24) _ = _
        simp only [Act.put,List.setIfInBounds_toArray,List.set_cons_zero,List.set_cons_succ,cL,dr]
        rfl
       refine Qr (i := 5) (N := some 25) #[true,true,true,true,true,true,false,false] rfl rfl (D8 E6.out (by kernel_rfl)) (by decide) (fun K hK => ?_)
       refine Kd.G5 kj (w0 := w) w.heap.size (by rfl) (.tmp 21) (.tmp 24) 41 65 (.agg #[(.int .u8 0),(.int .u64 0),(.string ⟨#[]⟩),(.slice none 0 0)]) 56 rfl Tryz.underlying41 NV rfl (by decide) (by omega) eu fx (⟨t221,t222,t223,t224⟩ : cY) [.int .u8 t221,.int .u64 t222,.string t223,.slice af2 t224.length afB] (fun k_ => k_ ≠ db ∧ k_ ≠ cV) (fun k_ => ((fun k_ => k_ ≠ db ∧ k_ ≠ cV)) k_ ∧ some k_ ≠ (eu : Value).ownBlock) rfl rfl ?aP (fun _ hk => hk) ?aF ?aO ?aB ?aS ?aL ?_
       (case aP => exact KJ _ _ _ (⟨t221,t222,t223,t224⟩ : cY) (Kd.fC (My.out) (fun k_ hk => ⟨⟨hk.1.2,hk.2⟩,hk.1.1.2⟩)))
       (case aB => exact (by repeat (first | (with_reducible first | exact HB.out | apply ab | apply ai | apply ak | refine aR ?_ gz.out | refine aR ?_ iR.out | refine aR ?_ kh.out | refine aR ?_ C5.out) | exact HB.out)))
       (case aF => exact (fun k_ hk => ⟨Kd.OU (g := db) (o := .cells #[.int .u8 0,.int .u64 0,.string (⟨#[]⟩ : ByteArray),.slice none 0 0] 65 (0,0)) (by (with_reducible repeat (first | refine aH ?_ _ | refine aI ?_ | refine aD ?_ _)); exact cQ.out) k_ hk,Kd.OU (g := cV) (o := .cells #[.int .u8 bw,.int .u64 bG,.string bu,eu] 65 (0,0)) (by (with_reducible repeat (first | refine aH ?_ _ | refine aI ?_ | refine aD ?_ _)); exact bB.out) k_ hk⟩))
       (case aO => exact (by (with_reducible repeat (first | apply Kd.cu | apply Kd.cJ | apply Kd.de)); exact Kd.fC cD.out (fun _ hk => ⟨hk.1.1,hk.1.2⟩)))
       (case aS => exact (br (by repeat (first | (with_reducible first | exact HB.out | apply ab | apply ai | apply ak | refine aR ?_ gz.out | refine aR ?_ iR.out | refine aR ?_ kh.out | refine aR ?_ C5.out) | exact HB.out))))
       (case aL => have := adL.out; omega)
       intro v228 w24 ho hb hg cM
       rw [← adE.out] at ho
       have bM := U.mk (kW (g := dO) (o := .cells #[.int .u8 bw,.int .u64 bG,.string bu,.slice (some CQ) aN.length fh] 25 (0,0)) (by (with_reducible repeat (first | refine aH ?_ _ | refine aI ?_ | refine aD ?_ _)); exact bT.out) hg (Kd.Sz cD.out bT.out (by decide)))
       have cq := U.mk (kW (g := db) (o := .cells #[.int .u8 0,.int .u64 0,.string (⟨#[]⟩ : ByteArray),.slice none 0 0] 65 (0,0)) (by (with_reducible repeat (first | refine aH ?_ _ | refine aI ?_ | refine aD ?_ _)); exact cQ.out) hg (Kd.Px cD.out (fun _ hk => hk.1.1)))
       have dR := U.mk (kW (g := cV) (o := .cells #[.int .u8 bw,.int .u64 bG,.string bu,eu] 65 (0,0)) (by (with_reducible repeat (first | refine aH ?_ _ | refine aI ?_ | refine aD ?_ _)); exact bB.out) hg (Kd.Px cD.out (fun _ hk => hk.1.2)))
       have eJ := U.mk (kW (g := bO) (o := .cells #[.int .u8 ((aA aN bg).f0),.int .u64 ((aA aN bg).f1),.string ((aA aN bg).f2),.slice gS ((aA aN bg).f3).length gO] 25 (0,0)) (by (with_reducible repeat (first | refine aH ?_ _ | refine aI ?_ | refine aD ?_ _)); exact cF.out) hg (Kd.Sz cD.out cF.out (by decide)))
       have iH := U.mk (hb)
       have jx := U.mk (ho)
       clear bT
       clear cQ
       clear bB
       clear cF
       clear HB
       clear cD
       clear My
       have bT := bM
       have cQ := cq
       have bB := dR
       have cF := eJ
       have HB := iH
       have Ud := jx
       clear bM cq dR eJ iH jx
       clear ho hb hg cM
       obtain ⟨ab', aaW,aap⟩ := Kd.kA Ud.out
       (first | subst aap | (injection aap with OW f2_ OV; have f4_ := OW.symm; have f5_ := OV.symm; clear OW f2_ OV; subst f4_; subst f5_))
       refine hK.out _ _ ⟨(aK bB.out 0).trans rfl,(aK bB.out 1).trans rfl,(aK bB.out 2).trans rfl,(aK bB.out 3).trans rfl,(aK cF.out 0).trans rfl,(aK cF.out 1).trans rfl,(aK cF.out 2).trans rfl,(aK cF.out 3).trans rfl⟩ (fun hHeld => ?_)
       clear hK K
       refine LS (a' := ?_) ?_ ?_
       rotate_left
       ·show Act.put _ (some 25) _ = _
        simp only [Act.put,List.setIfInBounds_toArray,List.set_cons_zero,List.set_cons_succ,cL,dr]
        rfl
       refine S5 (i := 6) (N := some 26) (v := ?_) (a' := ?_) #[true,true,true,true,true,true,true,false] rfl rfl (Pq E6.out (by kernel_rfl)) (fun _ _ _ h => h) (Or.inl ⟨by rfl,?_⟩) ?_ ?_
       rotate_left
       ·intro w'
        go_simp
        with_reducible rfl
       rotate_left
       ·simp only [Act.put,List.setIfInBounds_toArray,List.set_cons_zero,List.set_cons_succ,cL,dr]
        rfl
       refine acQ (i := 7) (N := none) #[true,true,true,true,true,true,true,true] rfl rfl (D8 E6.out (by kernel_rfl)) (by decide) (fun K hK => ?_)
       have ah3 : w24.cell? ⟨cV,3,none⟩ = some (eu) := (aK bB.out 3).trans rfl
       have aho := aY bB.out 3
       have af8 := gY.out
       have af7 := gX.out
       have af6 := GQ.out
       have aga := BP.out
       have af' := BO.out
       have af9 := jR.out
       refine acE (w1 := ?_) (by rfl) rfl ?_ ?_
       rotate_left
       ·go_simp
        rfl
       refine hK.out _ _ ?_
       clear hK K
       refine ac8 (U9 E6.out (by kernel_rfl)) ?_
       try go_wp2
       go_roundg k1
       case measure => have := fu.out; omega
       case rel => exact ⟨(wrap64 (bg + 1)),(LF),(.slice ab' LF.length aaW),(by first | rfl | (simp; done) | (simp [*]; done)),H', ⟨by have := fu.out; omega⟩,⟨by (with_reducible repeat (first | apply Kd.cu | apply Kd.cJ | apply Kd.de)); exact Kd.fC (Kd.gx (p := ⟨cV,3,none⟩) (Kd.fC Ud.out (fun k_ hk => (⟨hk,hk.2⟩ : _ ∧ k_ ≠ cV))) (fun _ hk => hk.2) (.slice ab' LF.length aaW)) (fun _ hk => ⟨hk.1.1,hk.1.2⟩)⟩,⟨by (with_reducible repeat (first | refine aH ?_ _ | refine aI ?_ | refine aD ?_ _)); refine dz ?_ gY.out _; (with_reducible repeat (first | refine aH ?_ _ | refine aI ?_ | refine aD ?_ _)); exact bT.out⟩,⟨by (with_reducible repeat (first | refine aH ?_ _ | refine aI ?_ | refine aD ?_ _)); refine dz ?_ gX.out _; (with_reducible repeat (first | refine aH ?_ _ | refine aI ?_ | refine aD ?_ _)); exact cQ.out⟩,⟨by (with_reducible repeat (first | refine aH ?_ _ | refine aI ?_ | refine aD ?_ _)); refine dV (cs := #[.int .u8 bw,.int .u64 bG,.string bu,eu]) ?_ 3 _ rfl; (with_reducible repeat (first | refine aH ?_ _ | refine aI ?_ | refine aD ?_ _)); exact bB.out⟩,⟨by repeat (first | (with_reducible first | exact HB.out | apply ab | apply ai | apply ak | refine aR ?_ gz.out | refine aR ?_ iR.out | refine aR ?_ kh.out | refine aR ?_ C5.out) | exact HB.out)⟩⟩
      ·rw [if_neg dU] at H
       exact absurd H (by simp)
     ·rw [if_neg bV] at H
      exact absurd H (by simp)
    ·rw [if_neg bP] at H
     exact absurd H (by simp)
   ·rw [if_neg bE] at H
    have dJ : decide (bg < (aN.length : Int)) = false := decide_eq_false bE
    clear bE
    simp only [Option.some.injEq,Prod.mk.injEq] at H
    obtain ⟨rfl,rfl,rfl,rfl⟩ := H
    have ahf := BP.out
    have ag' := gY.out
    have ahe := BO.out
    have ag9 := gX.out
    have agv : wr.cell? ⟨cV,0,none⟩ = some (.int .u8 bw) := (aK bB.out 0).trans rfl
    have agu : wr.cell? ⟨cV,1,none⟩ = some (.int .u64 bG) := (aK bB.out 1).trans rfl
    have agt : wr.cell? ⟨cV,2,none⟩ = some (.string bu) := (aK bB.out 2).trans rfl
    have ags : wr.cell? ⟨cV,3,none⟩ = some (eu) := (aK bB.out 3).trans rfl
    have agj := aY bB.out 0
    have agi := aY bB.out 1
    have agh := aY bB.out 2
    have agf := aY bB.out 3
    have ahd := GR.out
    have ag8 := GU.out
    have agr : wr.cell? ⟨db,0,none⟩ = some (.int .u8 0) := (aK cQ.out 0).trans rfl
    have agq : wr.cell? ⟨db,1,none⟩ = some (.int .u64 0) := (aK cQ.out 1).trans rfl
    have agp : wr.cell? ⟨db,2,none⟩ = some (.string (⟨#[]⟩ : ByteArray)) := (aK cQ.out 2).trans rfl
    have ago : wr.cell? ⟨db,3,none⟩ = some (.slice none 0 0) := (aK cQ.out 3).trans rfl
    have age := aY cQ.out 0
    have agd := aY cQ.out 1
    have agc := aY cQ.out 2
    have agb := aY cQ.out 3
    obtain ⟨ab9,aaV,afl⟩ := Kd.kA cD.out
    subst afl
    go_wp2
    refine bodyPost_ret (results_cell_row rfl _ _ db 65 #[.int .u8 bw,.int .u64 bG,.string bu,.slice ab9 fx.length aaV] (0,0) _ rfl (by (with_reducible repeat (first | refine aH ?_ _ | refine aI ?_ | refine aD ?_ _)); refine dV (cs := #[.int .u8 bw,.int .u64 bG,.string bu,.slice none 0 0]) ?_ 3 _ rfl; (with_reducible repeat (first | refine aH ?_ _ | refine aI ?_ | refine aD ?_ _)); refine dV (cs := #[.int .u8 bw,.int .u64 bG,.string (⟨#[]⟩ : ByteArray),.slice none 0 0]) ?_ 2 _ rfl; (with_reducible repeat (first | refine aH ?_ _ | refine aI ?_ | refine aD ?_ _)); refine dV (cs := #[.int .u8 bw,.int .u64 0,.string (⟨#[]⟩ : ByteArray),.slice none 0 0]) ?_ 1 _ rfl; (with_reducible repeat (first | refine aH ?_ _ | refine aI ?_ | refine aD ?_ _)); refine dV (cs := #[.int .u8 0,.int .u64 0,.string (⟨#[]⟩ : ByteArray),.slice none 0 0]) ?_ 0 _ rfl; (with_reducible repeat (first | refine aH ?_ _ | refine aI ?_ | refine aD ?_ _)); exact cQ.out) Tryz.underlying65 rfl (by kernel_rfl)) rfl ?_
    exact ⟨_,by first | rfl | (simp [bc,bb] <;> rfl) | (simp [*,bc,bb] <;> rfl) | (simp (disch := omega) only [cA] <;> rfl),by (with_reducible repeat (first | apply Kd.cu | apply Kd.cJ | apply Kd.de)); exact Kd.fC (Kd.gx (p := ⟨db,3,none⟩) (Kd.gx (p := ⟨db,2,none⟩) (Kd.gx (p := ⟨db,1,none⟩) (Kd.gx (p := ⟨db,0,none⟩) (Kd.fC cD.out (fun k_ hk => (⟨hk,hk.1⟩ : _ ∧ k_ ≠ db))) (fun _ hk => hk.2) (.int .u8 bw)) (fun _ hk => hk.2) (.int .u64 bG)) (fun _ hk => hk.2) (.string bu)) (fun _ hk => hk.2) (.slice ab9 fx.length aaV)) (fun _ hk => trivial),by repeat (first | (with_reducible first | exact HB.out | apply ab | apply ai | apply ak | refine aR ?_ gz.out | refine aR ?_ iR.out | refine aR ?_ kh.out) | exact HB.out)⟩
def cw.l0 : Nat → List (cY) → List (aT) → Int → Int → Option ((List (cY)))
 | 0,_,_,_,_ => none
 | k + 1,x3,x6,x7,x8 => if x8 < x7 then (if 0 ≤ x8 then (if x8 < (x6.length : Int) then ((bj.f k ((aA x6 x8).f0) ((aA x6 x8).f1) ((aA x6 x8).f2) ((aA x6 x8).f3)).bind fun Hq => (if x3.length < 2513169434916 then (cw.l0 k (x3 ++ [(⟨Hq.1,Hq.2.1,Hq.2.2.1,Hq.2.2.2⟩ : cY)]) x6 x7 (wrap64 (x8 + 1))) else (none))) else (none)) else (none)) else (some x3)
def cw.f (k : Nat) (l0 : List (aT)) : Option ((List (cY))) := cw.l0 k ([] : List (cY)) l0 (l0.length : Int) 0
theorem cw.calls (k : Nat) (A0 : Option Addr) (c0 : Nat) (l0 : List (aT)) (r : List (cY)) (w : World) (hr0 : Kd.C dF w A0 l0.length l0) (hc0 : l0.length ≤ c0) (h : cw.f k l0 = some r) :
  Calls Tryz.prog 19 #[.slice A0 l0.length c0] w fun e w' => ∃ AM : Value,e = .returned (AM) ∧ Kd.R kj 65 w' w.heap.size (fun _ => True) AM r ∧ Below w.heap.size w w' := by
 have Zb := Tryz.underlying25
 have HR0 := U.mk hr0
 have HC0 := U.mk hc0
 clear hr0 hc0
 have HB := U.mk (Below.refl w.heap.size w)
 have H : (cw.l0 k ([] : List (cY)) l0 (l0.length : Int) 0) = some r := h
 clear h
 have H' := U.mk H
 clear H
 go_enter Tryz.func19,Tryz.ntmps19
 go_wp2
 go_loopg [3,8] k (fun kq v3 v8 w' => ∃ (bL : List (cY)) (cT : Int),v8 = .int .i64 cT ∧ U (cw.l0 kq bL l0 (l0.length : Int) cT = some r) ∧ U (kq ≤ k) ∧ U (Kd.R kj 65 w' w.heap.size (fun _ => True) v3 bL) ∧ U (Below w.heap.size w w'))
 case atStart => exact ⟨(([] : List (cY))),(0),(by first | rfl | (simp; done) | (simp [*]; done)),H', ⟨Nat.le_refl _⟩,⟨by first | exact Kd.Ax _ _ _ _ _ | exact Kd.CZ _ _ _ _ _ | exact Kd.CR _ _ _ _ _ | exact Kd.CY _ _ _ _ _ | exact Kd.CV _ _ _ _ _⟩,⟨by repeat (first | (with_reducible first | exact HB.out | apply ab | apply ai | apply ak) | exact HB.out)⟩⟩
 case round=>
  clear H'
  try clear c1
  obtain ⟨bL,cT,rfl,HA,fu,ju,HB⟩ := hrel
  cases gk with
  | zero => exact absurd HA.out (by simp [cw.l0])
  | succ k1=>
   have H := HA.out
   clear HA
   simp only [cw.l0] at H
   by_cases c2 : cT < (l0.length : Int)
   ·rw [if_pos c2] at H
    have df : decide (cT < (l0.length : Int)) = true := decide_eq_true c2
    clear c2
    by_cases c3 : 0 ≤ cT
    ·rw [if_pos c3] at H
     have cI : decide (0 ≤ cT) = true := decide_eq_true c3
     clear c3
     by_cases c4 : cT < (l0.length : Int)
     ·rw [if_pos c4] at H
      have ei : decide (cT < (l0.length : Int)) = true := decide_eq_true c4
      clear c4
      replace H := Option.bind_eq_some_iff.mp H
      obtain ⟨⟨t232,t233,t234,t235⟩,A50,H⟩ := H
      replace H : (if bL.length < 2513169434916 then (cw.l0 k1 (bL ++ [(⟨t232,t233,t234,t235⟩ : cY)]) l0 (l0.length : Int) (wrap64 (cT + 1))) else (none)) = some r := H
      have A5 := U.mk A50
      clear A50
      by_cases c6 : bL.length < 2513169434916
      ·rw [if_pos c6] at H
       have afV := U.mk c6
       clear c6
       obtain ⟨Xh,Eg⟩ : ∃ y_ : List (cY),y_ = (bL ++ [(⟨t232,t233,t234,t235⟩ : cY)]) := ⟨_,rfl⟩
       replace H : (cw.l0 k1 Xh l0 (l0.length : Int) (wrap64 (cT + 1))) = some r := by first | (rw [Eg]; with_reducible exact H) | (have jb := (Option.bind_some _ _).symm.trans H; rw [Eg]; with_reducible exact jb) | (have jb := (Option.bind_some _ _).symm.trans H; with_reducible exact jb) | with_reducible exact H | (rw [Eg]; exact H) | exact H
       have adD := U.mk Eg
       clear Eg
       have H' := U.mk H
       clear H
       have Qj : 0 ≤ (cT : Int) := of_decide_eq_true (by first | (with_reducible assumption) | assumption)
       have Qf : cT < (l0.length : Int) := of_decide_eq_true (by first | (with_reducible assumption) | assumption)
       obtain ⟨ahv,BW,BK,afy,FH,FG,FE,FD,KW,K7⟩ := EM HR0.out cT Qj Qf
       cases afy
       replace FH := (HB.out.cell (World.block_lt_of_cell? w _ FH)).trans FH
       replace FG := (HB.out.cell (World.block_lt_of_cell? w _ FG)).trans FG
       replace FE := (HB.out.cell (World.block_lt_of_cell? w _ FE)).trans FE
       replace FD := (HB.out.cell (World.block_lt_of_cell? w _ FD)).trans FD
       have WK := U.mk K7
       have WN := U.mk KW
       clear K7 KW
       replace Qj := eq_true Qj
       replace Qf := eq_true Qf
       go_wp2_with (first | ((with_reducible refine ic (N := 5) rfl ?_); refine gv ?hg (N := 5) ?hd (cs := #[.int .u8 0,.int .u64 0,.string (⟨#[]⟩ : ByteArray),.slice none 0 0]) (t := 25) ?hr ?_; (case hd => rfl); (case hg => rfl); (case hr => first | (go_simp; done) | (go_simp; rfl)); intro gE hg w7 fz hb; have bM := U.mk (Kd.zO (by (with_reducible repeat (first | apply Kd.cu | apply Kd.cJ | apply Kd.de)); exact ju.out) hb); have cq := U.mk (aw (by repeat (first | (with_reducible first | exact HB.out | apply ab | apply ai | apply ak) | exact HB.out)) hb); have dR := U.mk (fz); have eJ := U.mk ((by rw [hg]; exact (br (by repeat (first | (with_reducible first | exact HB.out | apply ab | apply ai | apply ak) | exact HB.out))) : w.heap.size ≤ gE)); have iH := U.mk ((by rw [hg]; exact (br (by repeat (first | (with_reducible first | exact HB.out | apply ab | apply ai | apply ak) | exact HB.out))) : w.heap.size ≤ gE)); clear ju; clear HB; have ju := bM; have HB := cq; have gA := dR; have ahA := eJ; have C4 := iH; clear bM cq dR eJ iH; clear hb fz hg; have agV : w7.cell? ⟨gE,0,none⟩ = some (.int .u8 0) := (aK gA.out 0).trans rfl; have agU : w7.cell? ⟨gE,1,none⟩ = some (.int .u64 0) := (aK gA.out 1).trans rfl; have agT : w7.cell? ⟨gE,2,none⟩ = some (.string (⟨#[]⟩ : ByteArray)) := (aK gA.out 2).trans rfl; have agS : w7.cell? ⟨gE,3,none⟩ = some (.slice none 0 0) := (aK gA.out 3).trans rfl; have agJ := aY gA.out 0; have agI := aY gA.out 1; have agH := aY gA.out 2; have agG := aY gA.out 3) | ((with_reducible refine aW (f := 36) rfl ?_); refine bK (some 14) rfl rfl Tryz.func36 (by kernel_rfl) rfl #[.agg #[.int .u8 ((aA l0 cT).f0),.int .u64 ((aA l0 cT).f1),.string ((aA l0 cT).f2),.slice BW ((aA l0 cT).f3).length BK]] rfl (by (try simp only [List.map_toArray,List.map_cons,List.map_nil]); first | done | rfl | (simp only [List.length_drop,List.length_take]; rfl)) ?_; (with_reducible refine (bj.calls k1 ((aA l0 cT).f0) ((aA l0 cT).f1) ((aA l0 cT).f2) _ _ ((aA l0 cT).f3) t232 t233 t234 t235 _ ?side1 ?side2 A5.out).mono ?_); (case side1 => exact Kd.bD WK.out (by repeat (first | (with_reducible first | exact HB.out | apply ab | apply ai | apply ak | refine aR ?_ C4.out) | exact HB.out))); (case side2 => exact WN.out); rintro e w9 ⟨v236,rfl,jX,hb⟩; refine ⟨_,rfl,?_⟩; have bM := U.mk (Kd.JX (by (with_reducible repeat (first | apply Kd.cu | apply Kd.cJ | apply Kd.de)); exact (Kd.fC (Kd.gx (p := ⟨gE,3,none⟩) (Kd.gx (p := ⟨gE,2,none⟩) (Kd.gx (p := ⟨gE,1,none⟩) (Kd.gx (p := ⟨gE,0,none⟩) (Kd.F5 ju.out gA.out (by decide)) (fun _ hk => hk.2) (.int .u8 ((aA l0 cT).f0))) (fun _ hk => hk.2) (.int .u64 ((aA l0 cT).f1))) (fun _ hk => hk.2) (.string ((aA l0 cT).f2))) (fun _ hk => hk.2) (.slice BW ((aA l0 cT).f3).length BK)) (fun _ h_ => h_.1))) (Kd.Pw jX) hb); have cq := U.mk (Kd.kB (Kd.Pv jX (Kd.ab5 (by (with_reducible repeat (first | apply Kd.cu | apply Kd.cJ | apply Kd.de)); exact (Kd.fC (Kd.gx (p := ⟨gE,3,none⟩) (Kd.gx (p := ⟨gE,2,none⟩) (Kd.gx (p := ⟨gE,1,none⟩) (Kd.gx (p := ⟨gE,0,none⟩) (Kd.F5 ju.out gA.out (by decide)) (fun _ hk => hk.2) (.int .u8 ((aA l0 cT).f0))) (fun _ hk => hk.2) (.int .u64 ((aA l0 cT).f1))) (fun _ hk => hk.2) (.string ((aA l0 cT).f2))) (fun _ hk => hk.2) (.slice BW ((aA l0 cT).f3).length BK)) (fun _ h_ => h_.1))))) (br (by repeat (first | (with_reducible first | exact HB.out | apply ab | apply ai | apply ak | refine aR ?_ C4.out) | exact HB.out)))); have dR := U.mk (ff (g := gE) (o := .cells #[.int .u8 ((aA l0 cT).f0),.int .u64 ((aA l0 cT).f1),.string ((aA l0 cT).f2),.slice BW ((aA l0 cT).f3).length BK] 25 (0,0)) (by (with_reducible repeat (first | refine aH ?_ _ | refine aI ?_ | refine aD ?_ _)); refine dV (cs := #[.int .u8 ((aA l0 cT).f0),.int .u64 ((aA l0 cT).f1),.string ((aA l0 cT).f2),.slice none 0 0]) ?_ 3 _ rfl; (with_reducible repeat (first | refine aH ?_ _ | refine aI ?_ | refine aD ?_ _)); refine dV (cs := #[.int .u8 ((aA l0 cT).f0),.int .u64 ((aA l0 cT).f1),.string (⟨#[]⟩ : ByteArray),.slice none 0 0]) ?_ 2 _ rfl; (with_reducible repeat (first | refine aH ?_ _ | refine aI ?_ | refine aD ?_ _)); refine dV (cs := #[.int .u8 ((aA l0 cT).f0),.int .u64 0,.string (⟨#[]⟩ : ByteArray),.slice none 0 0]) ?_ 1 _ rfl; (with_reducible repeat (first | refine aH ?_ _ | refine aI ?_ | refine aD ?_ _)); refine dV (cs := #[.int .u8 0,.int .u64 0,.string (⟨#[]⟩ : ByteArray),.slice none 0 0]) ?_ 0 _ rfl; (with_reducible repeat (first | refine aH ?_ _ | refine aI ?_ | refine aD ?_ _)); exact gA.out) hb); have eJ := U.mk (aw (by repeat (first | (with_reducible first | exact HB.out | apply ab | apply ai | apply ak | refine aR ?_ C4.out) | exact HB.out)) hb); clear ju; clear gA; clear HB; have ju := bM; have Mx := cq; have gA := dR; have HB := eJ; clear bM cq dR eJ; (try clear hb); (try clear hb2); (try clear hk); (try clear hi); (try clear jX); obtain ⟨af4,afC,afn⟩ := Kd.kA Mx.out; subst afn) | ((with_reducible refine gN (b := .append) (xs := #[.tmp 12,.tmp 15]) rfl ?_); at_builtin; refine Kd.vH kj (w0 := w) w.heap.size rfl (.tmp 12) (.tmp 15) 41 65 (.agg #[(.int .u8 0),(.int .u64 0),(.string ⟨#[]⟩),(.slice none 0 0)]) 56 rfl Tryz.underlying41 NV rfl (by decide) (by omega) u3 bL (⟨t232,t233,t234,t235⟩ : cY) [.int .u8 t232,.int .u64 t233,.string t234,.slice af4 t235.length afC] (fun _ => True) (fun k_ => ((fun _ => True)) k_ ∧ some k_ ≠ (u3 : Value).ownBlock) rfl rfl ?aP (fun _ hk => hk) ?aF ?aO ?aB ?aS ?aL ?_; (case aP => exact KJ _ _ _ (⟨t232,t233,t234,t235⟩ : cY) (Kd.fC (Mx.out) (fun k_ hk => ⟨trivial,hk.2⟩))); (case aB => exact (by repeat (first | (with_reducible first | exact HB.out | apply ab | apply ai | apply ak | refine aR ?_ C4.out) | exact HB.out))); (case aF => exact (fun _ _ => trivial)); (case aO => exact (by (with_reducible repeat (first | apply Kd.cu | apply Kd.cJ | apply Kd.de)); exact Kd.fC ju.out (fun _ hk => trivial))); (case aS => exact (br (by repeat (first | (with_reducible first | exact HB.out | apply ab | apply ai | apply ak | refine aR ?_ C4.out) | exact HB.out)))); (case aL => have := afV.out; omega); intro ahG ki ho hb hg cM; rw [← adD.out] at ho; have bM := U.mk (kW (g := gE) (o := .cells #[.int .u8 ((aA l0 cT).f0),.int .u64 ((aA l0 cT).f1),.string ((aA l0 cT).f2),.slice BW ((aA l0 cT).f3).length BK] 25 (0,0)) (by (with_reducible repeat (first | refine aH ?_ _ | refine aI ?_ | refine aD ?_ _)); exact gA.out) hg (Kd.Sz ju.out gA.out (by decide))); have cq := U.mk (hb); have dR := U.mk (ho); clear gA; clear HB; clear ju; clear Mx; have gA := bM; have HB := cq; have adO := dR; clear bM cq dR; clear ho hb hg cM))
       go_roundg k1
       case measure => have := fu.out; omega
       case rel => exact ⟨(Xh),(wrap64 (cT + 1)),(by first | rfl | (simp; done) | (simp [*]; done)),H', ⟨by have := fu.out; omega⟩,⟨by (with_reducible repeat (first | apply Kd.cu | apply Kd.cJ | apply Kd.de)); exact adO.out⟩,⟨by repeat (first | (with_reducible first | exact HB.out | apply ab | apply ai | apply ak | refine aR ?_ C4.out) | exact HB.out)⟩⟩
      ·rw [if_neg c6] at H
       exact absurd H (by simp)
     ·rw [if_neg c4] at H
      exact absurd H (by simp)
    ·rw [if_neg c3] at H
     exact absurd H (by simp)
   ·rw [if_neg c2] at H
    have df : decide (cT < (l0.length : Int)) = false := decide_eq_false c2
    clear c2
    obtain rfl := Option.some.inj H
    go_wp2
    go_ret
    exact ⟨_,by first | rfl | (simp [bc,bb] <;> rfl) | (simp [*,bc,bb] <;> rfl) | (simp (disch := omega) only [cA] <;> rfl),by (with_reducible repeat (first | apply Kd.cu | apply Kd.cJ | apply Kd.de)); exact ju.out,by repeat (first | (with_reducible first | exact HB.out | apply ab | apply ai | apply ak) | exact HB.out)⟩

def bo.l0 : Nat → ByteArray → Int → Int → Option (Int)
 | 0,_,_,_ => none
 | k + 1,x0,x1,x5 => if x5 ≥ 0 then (if 0 ≤ x5 then (if x5 < (x0.size : Int) then (if (bt x0 x5) = x1 then (some x5) else (bo.l0 k x0 x1 (wrap64 (x5 - 1)))) else (none)) else (none)) else (some (-1))
def bo.f (k : Nat) (a0 : ByteArray) (a1 : Int) : Option (Int) := bo.l0 k a0 a1 (wrap64 ((a0.size : Int) - 1))
theorem bo.calls (k : Nat) (a0 : ByteArray) (a1 : Int) (r : Int) (w : World) (h : bo.f k a0 a1 = some r) :
  Calls Tryz.prog 97 #[.string a0,.int .u8 a1] w fun e w' => e = .returned (.int .i64 r) ∧ ah w w' := by
 have H : (bo.l0 k a0 a1 (wrap64 ((a0.size : Int) - 1))) = some r := h
 clear h
 have H' := U.mk H
 clear H
 go_enter Tryz.func97,Tryz.ntmps97
 go_wp2
 go_loopg [5] k (fun kq v5 w' => ∃ (bS : Int),v5 = .int .i64 bS ∧ U (bo.l0 kq a0 a1 bS = some r) ∧ U (kq ≤ k) ∧ ah w w')
 case atStart => exact ⟨(wrap64 ((a0.size : Int) - 1)),(by first | rfl | (simp; done) | (simp [*]; done)),H', ⟨Nat.le_refl _⟩,by repeat (first | exact ah.refl _ | apply ah.step)⟩
 case round=>
  clear H'
  try clear p2
  obtain ⟨bS,rfl,HA,fu,⟨m1,rfl⟩⟩ := hrel
  cases gk with
  | zero => exact absurd HA.out (by simp [bo.l0])
  | succ k1=>
   have H := HA.out
   clear HA
   simp only [bo.l0] at H
   by_cases c3 : bS ≥ 0
   ·rw [if_pos c3] at H
    have cI : decide (0 ≤ bS) = true := decide_eq_true c3
    clear c3
    by_cases c4 : 0 ≤ bS
    ·rw [if_pos c4] at H
     have ei : decide (0 ≤ bS) = true := decide_eq_true c4
     clear c4
     by_cases c5 : bS < (a0.size : Int)
     ·rw [if_pos c5] at H
      have cW : decide (bS < (a0.size : Int)) = true := decide_eq_true c5
      clear c5
      by_cases c7 : (bt a0 bS) = a1
      ·rw [if_pos c7] at H
       have dn : ((bt a0 bS) == a1) = true := beq_iff_eq.mpr c7
       have eZ : ((bt a0 bS) != a1) = false := bne_eq_false_iff_eq.mpr c7
       clear c7
       obtain rfl := Option.some.inj H
       have p6 : 0 ≤ (bS : Int) := of_decide_eq_true (by first | (with_reducible assumption) | assumption)
       have q6 : bS < (a0.size : Int) := of_decide_eq_true (by first | (with_reducible assumption) | assumption)
       have Od := bq a0 bS
       replace p6 := eq_true p6
       replace q6 := eq_true q6
       go_wp2
       go_ret
       exact ⟨by first | rfl | (simp; done) | (simp [*]; done),by repeat (first | exact ah.refl _ | apply ah.step)⟩
      ·rw [if_neg c7] at H
       have dn : ((bt a0 bS) == a1) = false := beq_eq_false_iff_ne.mpr c7
       have eZ : ((bt a0 bS) != a1) = true := bne_iff_ne.mpr c7
       have H' := U.mk H
       clear H
       have p6 : 0 ≤ (bS : Int) := of_decide_eq_true (by first | (with_reducible assumption) | assumption)
       have q6 : bS < (a0.size : Int) := of_decide_eq_true (by first | (with_reducible assumption) | assumption)
       have Od := bq a0 bS
       replace p6 := eq_true p6
       replace q6 := eq_true q6
       go_wp2
       go_roundg k1
       case measure => have := fu.out; omega
       case rel => exact ⟨(wrap64 (bS - 1)),(by first | rfl | (simp; done) | (simp [*]; done)),H', ⟨by have := fu.out; omega⟩,by repeat (first | exact ah.refl _ | apply ah.step)⟩
     ·rw [if_neg c5] at H
      exact absurd H (by simp)
    ·rw [if_neg c4] at H
     exact absurd H (by simp)
   ·rw [if_neg c3] at H
    have cI : decide (0 ≤ bS) = false := decide_eq_false c3
    clear c3
    obtain rfl := Option.some.inj H
    go_wp2
    go_ret
    exact ⟨by first | rfl | (simp; done) | (simp [*]; done),by repeat (first | exact ah.refl _ | apply ah.step)⟩
def fE.f (k : Nat) (a0 : ByteArray) (a1 : Int) : Option (Int) := (bo.f k a0 a1).bind fun t244 => (some t244)
theorem fE.calls (k : Nat) (a0 : ByteArray) (a1 : Int) (r : Int) (w : World) (h : fE.f k a0 a1 = some r) :
  Calls Tryz.prog 53 #[.string a0,.int .u8 a1] w fun e w' => e = .returned (.int .i64 r) ∧ ah w w' := by
 have H : ((bo.f k a0 a1).bind fun t244 => (some t244)) = some r := h
 clear h
 replace H := Option.bind_eq_some_iff.mp H
 obtain ⟨t244,PU,H⟩ := H
 replace H : (some t244) = some r := H
 have A3 := U.mk PU
 clear PU
 obtain rfl := Option.some.inj H
 go_enter Tryz.func53,Tryz.ntmps53
 go_wp2_with (first | ((with_reducible refine aW (f := 97) rfl ?_); refine bK (some 7) rfl rfl Tryz.func97 (by kernel_rfl) rfl #[.string a0,.int .u8 a1] rfl (by (try simp only [List.map_toArray,List.map_cons,List.map_nil]); first | done | rfl | (simp only [List.length_drop,List.length_take]; rfl)) ?_; (with_reducible refine (bo.calls k a0 a1 t244 _ A3.out).mono ?_); rintro e w' ⟨rfl,⟨nd,rfl⟩⟩; refine ⟨_,rfl,?_⟩))
 go_ret
 exact ⟨by first | rfl | (simp; done) | (simp [*]; done),by repeat (first | exact ah.refl _ | apply ah.step)⟩




end Go.Proofs.YtkdebhgccpfkiaaGreatDoor.au
namespace Go.Proofs.YtkdebhgccpfkiaaGreatDoor.au
open Go.RowKit Go.Proofs.aa.az Go.Proofs.aa.aM Go.Proofs.aa.aU
attribute [local go_sem] ba bh
set_option linter.unusedVariables false
set_option linter.unusedSimpArgs false
mutual
def fv.j0 : Nat → Bool → Int → Int → ByteArray → List (aT) → Option (ByteArray)
 | 0,_,_,_,_,_ => none
 | k + 1,F9,lK,Ft,Fs,y8 => if F9 = true then (if lK = 123 then (fv.j1 k (⟨#[125]⟩ : ByteArray) lK Ft Fs y8) else (fv.j1 k (⟨#[41]⟩ : ByteArray) lK Ft Fs y8)) else (some (strOfNums (([lK] : List Int))))
def fv.j1 : Nat → ByteArray → Int → Int → ByteArray → List (aT) → Option (ByteArray)
 | 0,_,_,_,_,_ => none
 | k + 1,x3,lK,Ft,Fs,y8 => fv.l0 k x3 (strOfNums (([lK] : List Int))) y8 (y8.length : Int) 0
def fv.l0 : Nat → ByteArray → ByteArray → List (aT) → Int → Int → Option (ByteArray)
 | 0,_,_,_,_,_ => none
 | k + 1,x3,x4,Kh,Kg,Ay => if Ay < Kg then (if 0 ≤ Ay then (if Ay < (Kh.length : Int) then ((fv.f k ((aA Kh Ay).f0) ((aA Kh Ay).f1) ((aA Kh Ay).f2) ((aA Kh Ay).f3)).bind fun t108 => (if x4.size + t108.size ≤ 9223372036854775807 then (fv.l0 k x3 (x4 ++ t108) Kh Kg (wrap64 (Ay + 1))) else (none))) else (none)) else (none)) else (if x4.size + x3.size ≤ 9223372036854775807 then (some (x4 ++ x3)) else (none))
def fv.f : Nat → Int → Int → ByteArray → List (aT) → Option (ByteArray)
 | 0,_,_,_,_ => none
 | k + 1,bw,bG,bu,aN => if bw = 97 then (if 1 + bu.size ≤ 9223372036854775807 then (some ((⟨#[97]⟩ : ByteArray) ++ bu)) else (none)) else (if bw = 40 then (fv.j0 k (bw == 40) bw bG bu aN) else (fv.j0 k (bw == 123) bw bG bu aN))
end
def dC.f (a0 : Int) : Option (Bool) := if a0 = 121 then (some true) else (if a0 = 98 then (some true) else (if a0 = 110 then (some true) else (if a0 = 113 then (some true) else (if a0 = 105 then (some true) else (if a0 = 117 then (some true) else (if a0 = 120 then (some true) else (if a0 = 116 then (some true) else (if a0 = 100 then (some true) else (if a0 = 115 then (some true) else (if a0 = 111 then (some true) else (if a0 = 103 then (some true) else (if a0 = 104 then (some true) else (some false)))))))))))))
theorem dC.calls (a0 : Int) (r : Bool) (w : World) (h : dC.f a0 = some r) :
  Calls Tryz.prog 7 #[.int .u8 a0] w fun e w' => e = .returned (.bool r) ∧ ah w w' := by
 have H : (if a0 = 121 then (some true) else (if a0 = 98 then (some true) else (if a0 = 110 then (some true) else (if a0 = 113 then (some true) else (if a0 = 105 then (some true) else (if a0 = 117 then (some true) else (if a0 = 120 then (some true) else (if a0 = 116 then (some true) else (if a0 = 100 then (some true) else (if a0 = 115 then (some true) else (if a0 = 111 then (some true) else (if a0 = 103 then (some true) else (if a0 = 104 then (some true) else (some false)))))))))))))) = some r := h
 clear h
 by_cases c2 : a0 = 121
 ·rw [if_pos c2] at H
  have df : (a0 == 121) = true := beq_iff_eq.mpr c2
  have eF : (a0 != 121) = false := bne_eq_false_iff_eq.mpr c2
  clear c2
  obtain rfl := Option.some.inj H
  go_enter Tryz.func7,Tryz.ntmps7
  go_wp2
  go_ret
  exact ⟨by first | rfl | (simp; done) | (simp [*]; done),by repeat (first | exact ah.refl _ | apply ah.step)⟩
 ·rw [if_neg c2] at H
  have df : (a0 == 121) = false := beq_eq_false_iff_ne.mpr c2
  have eF : (a0 != 121) = true := bne_iff_ne.mpr c2
  by_cases c3 : a0 = 98
  ·rw [if_pos c3] at H
   have cI : (a0 == 98) = true := beq_iff_eq.mpr c3
   have ej : (a0 != 98) = false := bne_eq_false_iff_eq.mpr c3
   clear c3
   obtain rfl := Option.some.inj H
   go_enter Tryz.func7,Tryz.ntmps7
   go_wp2
   go_ret
   exact ⟨by first | rfl | (simp; done) | (simp [*]; done),by repeat (first | exact ah.refl _ | apply ah.step)⟩
  ·rw [if_neg c3] at H
   have cI : (a0 == 98) = false := beq_eq_false_iff_ne.mpr c3
   have ej : (a0 != 98) = true := bne_iff_ne.mpr c3
   by_cases c4 : a0 = 110
   ·rw [if_pos c4] at H
    have ei : (a0 == 110) = true := beq_iff_eq.mpr c4
    have gl : (a0 != 110) = false := bne_eq_false_iff_eq.mpr c4
    clear c4
    obtain rfl := Option.some.inj H
    go_enter Tryz.func7,Tryz.ntmps7
    go_wp2
    go_ret
    exact ⟨by first | rfl | (simp; done) | (simp [*]; done),by repeat (first | exact ah.refl _ | apply ah.step)⟩
   ·rw [if_neg c4] at H
    have ei : (a0 == 110) = false := beq_eq_false_iff_ne.mpr c4
    have gl : (a0 != 110) = true := bne_iff_ne.mpr c4
    by_cases c5 : a0 = 113
    ·rw [if_pos c5] at H
     have cW : (a0 == 113) = true := beq_iff_eq.mpr c5
     have dH : (a0 != 113) = false := bne_eq_false_iff_eq.mpr c5
     clear c5
     obtain rfl := Option.some.inj H
     go_enter Tryz.func7,Tryz.ntmps7
     go_wp2
     go_ret
     exact ⟨by first | rfl | (simp; done) | (simp [*]; done),by repeat (first | exact ah.refl _ | apply ah.step)⟩
    ·rw [if_neg c5] at H
     have cW : (a0 == 113) = false := beq_eq_false_iff_ne.mpr c5
     have dH : (a0 != 113) = true := bne_iff_ne.mpr c5
     by_cases c6 : a0 = 105
     ·rw [if_pos c6] at H
      have eg : (a0 == 105) = true := beq_iff_eq.mpr c6
      have fR : (a0 != 105) = false := bne_eq_false_iff_eq.mpr c6
      clear c6
      obtain rfl := Option.some.inj H
      go_enter Tryz.func7,Tryz.ntmps7
      go_wp2
      go_ret
      exact ⟨by first | rfl | (simp; done) | (simp [*]; done),by repeat (first | exact ah.refl _ | apply ah.step)⟩
     ·rw [if_neg c6] at H
      have eg : (a0 == 105) = false := beq_eq_false_iff_ne.mpr c6
      have fR : (a0 != 105) = true := bne_iff_ne.mpr c6
      by_cases c7 : a0 = 117
      ·rw [if_pos c7] at H
       have dn : (a0 == 117) = true := beq_iff_eq.mpr c7
       have eZ : (a0 != 117) = false := bne_eq_false_iff_eq.mpr c7
       clear c7
       obtain rfl := Option.some.inj H
       go_enter Tryz.func7,Tryz.ntmps7
       go_wp2
       go_ret
       exact ⟨by first | rfl | (simp; done) | (simp [*]; done),by repeat (first | exact ah.refl _ | apply ah.step)⟩
      ·rw [if_neg c7] at H
       have dn : (a0 == 117) = false := beq_eq_false_iff_ne.mpr c7
       have eZ : (a0 != 117) = true := bne_iff_ne.mpr c7
       by_cases c8 : a0 = 120
       ·rw [if_pos c8] at H
        have eD : (a0 == 120) = true := beq_iff_eq.mpr c8
        have jr : (a0 != 120) = false := bne_eq_false_iff_eq.mpr c8
        clear c8
        obtain rfl := Option.some.inj H
        go_enter Tryz.func7,Tryz.ntmps7
        go_wp2
        go_ret
        exact ⟨by first | rfl | (simp; done) | (simp [*]; done),by repeat (first | exact ah.refl _ | apply ah.step)⟩
       ·rw [if_neg c8] at H
        have eD : (a0 == 120) = false := beq_eq_false_iff_ne.mpr c8
        have jr : (a0 != 120) = true := bne_iff_ne.mpr c8
        by_cases c9 : a0 = 116
        ·rw [if_pos c9] at H
         have eC : (a0 == 116) = true := beq_iff_eq.mpr c9
         have j8 : (a0 != 116) = false := bne_eq_false_iff_eq.mpr c9
         clear c9
         obtain rfl := Option.some.inj H
         go_enter Tryz.func7,Tryz.ntmps7
         go_wp2
         go_ret
         exact ⟨by first | rfl | (simp; done) | (simp [*]; done),by repeat (first | exact ah.refl _ | apply ah.step)⟩
        ·rw [if_neg c9] at H
         have eC : (a0 == 116) = false := beq_eq_false_iff_ne.mpr c9
         have j8 : (a0 != 116) = true := bne_iff_ne.mpr c9
         by_cases cC : a0 = 100
         ·rw [if_pos cC] at H
          have fa : (a0 == 100) = true := beq_iff_eq.mpr cC
          have jl : (a0 != 100) = false := bne_eq_false_iff_eq.mpr cC
          clear cC
          obtain rfl := Option.some.inj H
          go_enter Tryz.func7,Tryz.ntmps7
          go_wp2
          go_ret
          exact ⟨by first | rfl | (simp; done) | (simp [*]; done),by repeat (first | exact ah.refl _ | apply ah.step)⟩
         ·rw [if_neg cC] at H
          have fa : (a0 == 100) = false := beq_eq_false_iff_ne.mpr cC
          have jl : (a0 != 100) = true := bne_iff_ne.mpr cC
          by_cases bE : a0 = 115
          ·rw [if_pos bE] at H
           have dJ : (a0 == 115) = true := beq_iff_eq.mpr bE
           have eS : (a0 != 115) = false := bne_eq_false_iff_eq.mpr bE
           clear bE
           obtain rfl := Option.some.inj H
           go_enter Tryz.func7,Tryz.ntmps7
           go_wp2
           go_ret
           exact ⟨by first | rfl | (simp; done) | (simp [*]; done),by repeat (first | exact ah.refl _ | apply ah.step)⟩
          ·rw [if_neg bE] at H
           have dJ : (a0 == 115) = false := beq_eq_false_iff_ne.mpr bE
           have eS : (a0 != 115) = true := bne_iff_ne.mpr bE
           by_cases bP : a0 = 111
           ·rw [if_pos bP] at H
            have fj : (a0 == 111) = true := beq_iff_eq.mpr bP
            have jk : (a0 != 111) = false := bne_eq_false_iff_eq.mpr bP
            clear bP
            obtain rfl := Option.some.inj H
            go_enter Tryz.func7,Tryz.ntmps7
            go_wp2
            go_ret
            exact ⟨by first | rfl | (simp; done) | (simp [*]; done),by repeat (first | exact ah.refl _ | apply ah.step)⟩
           ·rw [if_neg bP] at H
            have fj : (a0 == 111) = false := beq_eq_false_iff_ne.mpr bP
            have jk : (a0 != 111) = true := bne_iff_ne.mpr bP
            by_cases bV : a0 = 103
            ·rw [if_pos bV] at H
             have dP : (a0 == 103) = true := beq_iff_eq.mpr bV
             have gf : (a0 != 103) = false := bne_eq_false_iff_eq.mpr bV
             clear bV
             obtain rfl := Option.some.inj H
             go_enter Tryz.func7,Tryz.ntmps7
             go_wp2
             go_ret
             exact ⟨by first | rfl | (simp; done) | (simp [*]; done),by repeat (first | exact ah.refl _ | apply ah.step)⟩
            ·rw [if_neg bV] at H
             have dP : (a0 == 103) = false := beq_eq_false_iff_ne.mpr bV
             have gf : (a0 != 103) = true := bne_iff_ne.mpr bV
             by_cases cS : a0 = 104
             ·rw [if_pos cS] at H
              have iO : (a0 == 104) = true := beq_iff_eq.mpr cS
              have kJ : (a0 != 104) = false := bne_eq_false_iff_eq.mpr cS
              clear cS
              obtain rfl := Option.some.inj H
              go_enter Tryz.func7,Tryz.ntmps7
              go_wp2
              go_ret
              exact ⟨by first | rfl | (simp; done) | (simp [*]; done),by repeat (first | exact ah.refl _ | apply ah.step)⟩
             ·rw [if_neg cS] at H
              have iO : (a0 == 104) = false := beq_eq_false_iff_ne.mpr cS
              have kJ : (a0 != 104) = true := bne_iff_ne.mpr cS
              obtain rfl := Option.some.inj H
              go_enter Tryz.func7,Tryz.ntmps7
              go_wp2
              go_ret
              exact ⟨by first | rfl | (simp; done) | (simp [*]; done),by repeat (first | exact ah.refl _ | apply ah.step)⟩
end Go.Proofs.YtkdebhgccpfkiaaGreatDoor.au
