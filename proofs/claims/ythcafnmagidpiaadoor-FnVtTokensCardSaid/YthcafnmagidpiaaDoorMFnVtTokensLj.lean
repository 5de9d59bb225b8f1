-- A trial text of this session.
import Derived.Test.YthcafnmagidpiaaDoorMFnVtTokensLf
namespace Go.Proofs.YthcafnmagidpiaaDoor.MFnVtTokens
open Go.RowKit Go.Proofs.YthcafnmagidpiaaDoorW.PrintWords Go.Proofs.YthcafnmagidpiaaDoorW.PrintLast Go.Proofs.YthcafnmagidpiaaDoorW.PrintMore
attribute [local go_sem] max2_int min2_int max_two min_two max_three min_three max_four min_four
set_option linter.unusedVariables false
set_option linter.unusedSimpArgs false

set_option maxHeartbeats 16000000 in
set_option maxRecDepth 100000 in
theorem arm_11 (K : Nat) (w0 : World) (g : Nat) (a : ByteArray) (p0 : Nat) (R ts2 rest2 : List S48) (p k0 : Nat) (w : World) (Kx : Act → World → Prop) {u2 u3 u4 u5 u6 u7 u8 u9 u10 u11 u12 u13 u14 u15 u16 u17 u18 u19 u20 u21 u22 u23 u24 u25 u26 u27 u28 u29 u30 u31 u32 u33 u34 u35 u36 u37 u38 u39 u40 u41 u42 u43 u44 u45 u46 u47 u48 u49 u50 u51 u52 u53 u54 u55 u56 u57 u58 u59 u60 u61 u62 u63 u64 u65 u66 u67 u68 u69 u70 u71 u72 u73 u74 u75 u76 u77 u78 u79 u80 u81 u82 u83 u84 u85 u86 u87 u88 u89 u90 u91 u92 u93 u94 u95 u96 u97 u98 u99 u100 u101 u102 u103 u104 u105 u106 u107 u108 u109 u110 u111 u112 u113 u114 u115 u116 u117 u118 u119 u120 u121 u122 u123 u124 u125 u126 u127 u128 u129 u130 u131 u132 u133 u134 u135 u136 u137 u138 u139 u140 u141 u142 u143 u144 u145 u146 u147 u148 u149 u150 u151 u152 u153 u154 u155 u156 u157 u158 u159 u160 u161 u162 u163 u164 u165 u166 u167 u168 u169 u170 u171 u172 u173 u174 u175 u176 u177 u178 u179 : Value} (hK : KOk K w0 g a R p Kx) (hx : Lx w0 w g a p p k0 ts2) (hp1 : p0 ≤ p) (hp2 : p ≤ a.size) (hlx : ∃ n, lexF K n (a.data.toList.drop p) = some rest2) (hR : R = ts2 ++ rest2) (hq : a.size ≤ 100000) (hRn : R.length ≤ 100000) (hT : Lib.Utf8Tabs 0 1 w0)
    (c : UInt8) (t : List UInt8) (e1 : a.data.toList.drop p = c :: t) (hc : c.toNat < 128) (hm : (48 ≤ c.toNat ∧ c.toNat ≤ 57) ∨ c.toNat = 43 ∨ c.toNat = 45) :
    Code.wp Tryd.prog (cp (cb (cr (cB Tryd.f32)))) (Exit.then Kx (Exit.inBlock 0 (bodyPost Tryd.prog Tryd.f32 (NormPost K w0 g a R p0)))) ⟨List.toArray (.pointer (some ⟨g, 0, none⟩)::undef::u2::u3::u4::u5::u6::u7::u8::u9::u10::u11::u12::u13::u14::u15::u16::u17::u18::u19::u20::u21::u22::u23::u24::u25::u26::u27::u28::u29::u30::u31::u32::u33::u34::u35::u36::u37::u38::u39::u40::u41::u42::u43::u44::u45::u46::u47::u48::u49::u50::u51::u52::u53::u54::u55::u56::u57::u58::u59::u60::u61::u62::u63::u64::u65::u66::u67::u68::u69::u70::u71::u72::u73::u74::u75::u76::u77::u78::u79::u80::u81::u82::u83::u84::u85::u86::u87::u88::u89::u90::u91::u92::u93::u94::u95::u96::u97::u98::u99::u100::u101::u102::u103::u104::u105::u106::u107::u108::u109::u110::u111::u112::u113::u114::u115::u116::u117::u118::u119::u120::u121::u122::u123::u124::u125::u126::u127::u128::u129::u130::u131::u132::u133::u134::u135::u136::u137::u138::u139::u140::u141::u142::u143::u144::u145::u146::u147::u148::u149::u150::u151::u152::u153::u154::u155::u156::u157::u158::u159::u160::u161::u162::u163::u164::u165::u166::u167::u168::u169::u170::u171::u172::u173::u174::u175::u176::u177::u178::u179::[]), []⟩ w := by
  have HN := Aside0.mk (fun W st p k ts (h : Lx w0 W g a st p k ts) (hp : p ≤ a.size) => next_calls w0 W g a st p k ts h hp hq hT)
  have HPK := Aside0.mk (fun W st p k ts (h : Lx w0 W g a st p k ts) (hp : p ≤ a.size) => peek_calls w0 W g a st p k ts h hp hq hT)
  have HBK := Aside0.mk (fun W st p k (ts : List S48) (h : Lx w0 W g a st p k ts) (hp : k ≤ p) (hq : p ≤ 100000) => back_calls w0 W g a st p k ts h hp hq)
  have HIG := Aside0.mk (fun W st p k ts (h : Lx w0 W g a st p k ts) => ign_calls w0 W g a st p k ts h)
  have HM := Aside0.mk (fun W st p k ts t (h : Lx w0 W g a st p k ts) (h1 : st ≤ p) (h2 : p ≤ a.size) (h3 : ts.length ≤ 200000) => emit_calls w0 W g a st p k ts t h h1 h2 hq h3)
  have HK := Aside0.mk hK
  have HXI := Aside0.mk hx
  have HLL := Aside0.mk hlx
  have HRR := Aside0.mk hR
  have HRL : Aside0 (ts2.length ≤ 100000) := ⟨by have h2 := congrArg List.length hR; rw [List.length_append] at h2; omega⟩
  clear hK hx hlx hR hRn hT
  have HE1 := Aside0.mk e1
  have hsz : p + 1 ≤ a.size := sz_of e1
  obtain ⟨nL, hlex⟩ := HLL.out
  rw [e1] at hlex
  have HLX := Aside0.mk hlex
  have HT1 := Aside0.mk (drop_tail e1)
  clear e1 hlex
  dsimp only [cp, cb, cr, cB, Tryd.f32]
  go_upto_region 2 with (go_at_call 34; refine (HN.out _ _ _ _ _ HXI.out hp2).mono ?_; rintro e w3 ⟨r, k, hn, rfl, hx3⟩; (obtain ⟨rfl, rfl⟩ := nx_asc hn HE1.out hc); have HX3 := Aside0.mk hx3; clear hn hx3)
  -- a number
  have hb : blankb c = false := decide_eq_false (by omega)
  have hsp := sp_at hc
  rw [hb] at hsp
  have HSP := Aside0.mk hsp
  obtain ⟨o, ho1, ho2⟩ := lex_tok hb HLX.out
  have hnu := tok_num (K := K) (t := t) hm
  rw [ho1] at hnu
  have HO := Aside0.mk (And.intro ho1 (And.intro ho2 hnu.symm))
  have HBL := Aside0.mk hb
  have HDG := Aside0.mk (dg_at hc)
  have hmm := hm
  have nm1 : ((c.toNat : Int) == (-1)) = false := beq_eq_false_iff_ne.2 (by omega)
  have n91 : ((c.toNat : Int) == 91) = false := beq_eq_false_iff_ne.2 (by omega)
  have n93 : ((c.toNat : Int) == 93) = false := beq_eq_false_iff_ne.2 (by omega)
  have n123 : ((c.toNat : Int) == 123) = false := beq_eq_false_iff_ne.2 (by omega)
  have n125 : ((c.toNat : Int) == 125) = false := beq_eq_false_iff_ne.2 (by omega)
  have n60 : ((c.toNat : Int) == 60) = false := beq_eq_false_iff_ne.2 (by omega)
  have n62 : ((c.toNat : Int) == 62) = false := beq_eq_false_iff_ne.2 (by omega)
  have n58 : ((c.toNat : Int) == 58) = false := beq_eq_false_iff_ne.2 (by omega)
  have n44 : ((c.toNat : Int) == 44) = false := beq_eq_false_iff_ne.2 (by omega)
  have n39 : ((c.toNat : Int) == 39) = false := beq_eq_false_iff_ne.2 (by omega)
  have n34 : ((c.toNat : Int) == 34) = false := beq_eq_false_iff_ne.2 (by omega)
  have n64 : ((c.toNat : Int) == 64) = false := beq_eq_false_iff_ne.2 (by omega)
  have n98 : ((c.toNat : Int) == 98) = false := beq_eq_false_iff_ne.2 (by omega)
  clear hb hsp ho1 ho2 hnu hmm
  rcases hm with h | h | h
  · as_aux_lemma =>
      rw [show decide (48 ≤ c.toNat ∧ c.toNat ≤ 57) = true from decide_eq_true h] at HDG
      have n43 : ((c.toNat : Int) == 43) = false := beq_eq_false_iff_ne.2 (by omega)
      have n45 : ((c.toNat : Int) == 45) = false := beq_eq_false_iff_ne.2 (by omega)
      clear h
      go_wp2_with (first | (go_at_call 39; refine (dbus_zzSpace.calls (c.toNat : Int) false _ HSP.out).mono ?_; rintro e w4 ⟨rfl, ⟨m4, rfl⟩⟩) | (go_at_call 41; refine (dbus_zzNumber.calls (c.toNat : Int) _ _ HDG.out).mono ?_; rintro e w6 ⟨rfl, ⟨m6, rfl⟩⟩) | (go_at_call 36; refine (HBK.out _ _ _ _ _ (by repeat (first | exact HX3.out | apply Lx.drewN)) (by omega) (by omega)).mono ?_; rintro e w5 ⟨rfl, hx5⟩; (rw [Nat.add_sub_cancel] at hx5); have HX5 := Aside0.mk hx5; clear hx5))
      go_ret
      exact ⟨_, _, rfl, by omega, .inr (.inr ⟨p, ts2, rest2, _, o, c, t, hp2, HRR.out, HE1.out, HO.out.2.1, HBL.out, HO.out.1, rfl, .inr (.inr (.inl ⟨rfl, HO.out.2.2, HX5.out⟩))⟩)⟩
  · as_aux_lemma =>
      rw [show decide (48 ≤ c.toNat ∧ c.toNat ≤ 57) = false from decide_eq_false (by omega)] at HDG
      have n43 : ((c.toNat : Int) == 43) = true := beq_iff_eq.2 (by omega)
      have n45 : ((c.toNat : Int) == 45) = false := beq_eq_false_iff_ne.2 (by omega)
      clear h
      go_wp2_with (first | (go_at_call 39; refine (dbus_zzSpace.calls (c.toNat : Int) false _ HSP.out).mono ?_; rintro e w4 ⟨rfl, ⟨m4, rfl⟩⟩) | (go_at_call 41; refine (dbus_zzNumber.calls (c.toNat : Int) _ _ HDG.out).mono ?_; rintro e w6 ⟨rfl, ⟨m6, rfl⟩⟩) | (go_at_call 36; refine (HBK.out _ _ _ _ _ (by repeat (first | exact HX3.out | apply Lx.drewN)) (by omega) (by omega)).mono ?_; rintro e w5 ⟨rfl, hx5⟩; (rw [Nat.add_sub_cancel] at hx5); have HX5 := Aside0.mk hx5; clear hx5))
      go_ret
      exact ⟨_, _, rfl, by omega, .inr (.inr ⟨p, ts2, rest2, _, o, c, t, hp2, HRR.out, HE1.out, HO.out.2.1, HBL.out, HO.out.1, rfl, .inr (.inr (.inl ⟨rfl, HO.out.2.2, HX5.out⟩))⟩)⟩
  · as_aux_lemma =>
      rw [show decide (48 ≤ c.toNat ∧ c.toNat ≤ 57) = false from decide_eq_false (by omega)] at HDG
      have n43 : ((c.toNat : Int) == 43) = false := beq_eq_false_iff_ne.2 (by omega)
      have n45 : ((c.toNat : Int) == 45) = true := beq_iff_eq.2 (by omega)
      clear h
      go_wp2_with (first | (go_at_call 39; refine (dbus_zzSpace.calls (c.toNat : Int) false _ HSP.out).mono ?_; rintro e w4 ⟨rfl, ⟨m4, rfl⟩⟩) | (go_at_call 41; refine (dbus_zzNumber.calls (c.toNat : Int) _ _ HDG.out).mono ?_; rintro e w6 ⟨rfl, ⟨m6, rfl⟩⟩) | (go_at_call 36; refine (HBK.out _ _ _ _ _ (by repeat (first | exact HX3.out | apply Lx.drewN)) (by omega) (by omega)).mono ?_; rintro e w5 ⟨rfl, hx5⟩; (rw [Nat.add_sub_cancel] at hx5); have HX5 := Aside0.mk hx5; clear hx5))
      go_ret
      exact ⟨_, _, rfl, by omega, .inr (.inr ⟨p, ts2, rest2, _, o, c, t, hp2, HRR.out, HE1.out, HO.out.2.1, HBL.out, HO.out.1, rfl, .inr (.inr (.inl ⟨rfl, HO.out.2.2, HX5.out⟩))⟩)⟩


end Go.Proofs.YthcafnmagidpiaaDoor.MFnVtTokens
