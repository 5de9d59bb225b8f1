-- A trial text of this session.
import Derived.Test.YthcafnmagidpiaaDoorMFnVtTokensLf
namespace Go.Proofs.YthcafnmagidpiaaDoor.MFnVtTokens
open Go.RowKit Go.Proofs.YthcafnmagidpiaaDoorW.PrintWords Go.Proofs.YthcafnmagidpiaaDoorW.PrintLast Go.Proofs.YthcafnmagidpiaaDoorW.PrintMore
attribute [local go_sem] max2_int min2_int max_two min_two max_three min_three max_four min_four
set_option linter.unusedVariables false
set_option linter.unusedSimpArgs false

set_option maxHeartbeats 16000000 in
set_option maxRecDepth 100000 in
theorem arm_end (K : Nat) (w0 : World) (g : Nat) (a : ByteArray) (p0 : Nat) (R ts2 rest2 : List S48) (p k0 : Nat) (w : World) (Kx : Act → World → Prop) {u2 u3 u4 u5 u6 u7 u8 u9 u10 u11 u12 u13 u14 u15 u16 u17 u18 u19 u20 u21 u22 u23 u24 u25 u26 u27 u28 u29 u30 u31 u32 u33 u34 u35 u36 u37 u38 u39 u40 u41 u42 u43 u44 u45 u46 u47 u48 u49 u50 u51 u52 u53 u54 u55 u56 u57 u58 u59 u60 u61 u62 u63 u64 u65 u66 u67 u68 u69 u70 u71 u72 u73 u74 u75 u76 u77 u78 u79 u80 u81 u82 u83 u84 u85 u86 u87 u88 u89 u90 u91 u92 u93 u94 u95 u96 u97 u98 u99 u100 u101 u102 u103 u104 u105 u106 u107 u108 u109 u110 u111 u112 u113 u114 u115 u116 u117 u118 u119 u120 u121 u122 u123 u124 u125 u126 u127 u128 u129 u130 u131 u132 u133 u134 u135 u136 u137 u138 u139 u140 u141 u142 u143 u144 u145 u146 u147 u148 u149 u150 u151 u152 u153 u154 u155 u156 u157 u158 u159 u160 u161 u162 u163 u164 u165 u166 u167 u168 u169 u170 u171 u172 u173 u174 u175 u176 u177 u178 u179 : Value} (hK : KOk K w0 g a R p Kx) (hx : Lx w0 w g a p p k0 ts2) (hp1 : p0 ≤ p) (hp2 : p ≤ a.size) (hlx : ∃ n, lexF K n (a.data.toList.drop p) = some rest2) (hR : R = ts2 ++ rest2) (hq : a.size ≤ 100000) (hRn : R.length ≤ 100000) (hT : Lib.Utf8Tabs 0 1 w0)
    (e1 : a.data.toList.drop p = []) :
    Code.wp Tryd.prog (cp (cb (cr (cB Tryd.f32)))) (Exit.then Kx (Exit.inBlock 0 (bodyPost Tryd.prog Tryd.f32 (NormPost K w0 g a R p0)))) ⟨List.toArray (.pointer (some ⟨g, 0, none⟩)::undef::u2::u3::u4::u5::u6::u7::u8::u9::u10::u11::u12::u13::u14::u15::u16::u17::u18::u19::u20::u21::u22::u23::u24::u25::u26::u27::u28::u29::u30::u31::u32::u33::u34::u35::u36::u37::u38::u39::u40::u41::u42::u43::u44::u45::u46::u47::u48::u49::u50::u51::u52::u53::u54::u55::u56::u57::u58::u59::u60::u61::u62::u63::u64::u65::u66::u67::u68::u69::u70::u71::u72::u73::u74::u75::u76::u77::u78::u79::u80::u81::u82::u83::u84::u85::u86::u87::u88::u89::u90::u91::u92::u93::u94::u95::u96::u97::u98::u99::u100::u101::u102::u103::u104::u105::u106::u107::u108::u109::u110::u111::u112::u113::u114::u115::u116::u117::u118::u119::u120::u121::u122::u123::u124::u125::u126::u127::u128::u129::u130::u131::u132::u133::u134::u135::u136::u137::u138::u139::u140::u141::u142::u143::u144::u145::u146::u147::u148::u149::u150::u151::u152::u153::u154::u155::u156::u157::u158::u159::u160::u161::u162::u163::u164::u165::u166::u167::u168::u169::u170::u171::u172::u173::u174::u175::u176::u177::u178::u179::[]), []⟩ w := by
  have HN := Aside0.mk (fun W st p k ts (h : Lx w0 W g a st p k ts) (hp : p ≤ a.size) => next_calls w0 W g a st p k ts h hp hq hT)
  have HPK := Aside0.mk (fun W st p k ts (h : Lx w0 W g a st p k ts) (hp : p ≤ a.size) => peek_calls w0 W g a st p k ts h hp hq hT)
  have HBK := Aside0.mk (fun W st p k (ts : List S48) (h : Lx w0 W g a st p k ts) (hp : k ≤ p) (hq : p ≤ 100000) => back_calls w0 W g a st p k ts h hp hq)
  have HIG := Aside0.mk (fun W st p k ts (h : Lx w0 W g a st p k ts) => ign_calls w0 W g a st p k ts h)
  have HM := Aside0.mk (fun W st p k ts t (h : Lx w0 W g a st p k ts) (h1 : st ≤ p) (h2 : p ≤ a.size) (h3 : ts.length ≤ 200000) => emit_calls w0 W g a st p k ts t h h1 h2 hq h3)
  have HK := Aside0.mk hK
  have HXI := Aside0.mk hx
  have HLL := Aside0.mk hlx
  have HRR := Aside0.mk hR
  have HRL : Aside0 (ts2.length ≤ 100000) := ⟨by have h2 := congrArg List.length hR; rw [List.length_append] at h2; omega⟩
  clear hK hx hlx hR hRn hT
  have hre : rest2 = [⟨0, ⟨#[]⟩⟩] := by
    obtain ⟨n2, h2⟩ := HLL.out
    rw [e1] at h2
    exact lex_end h2
  have HRE := Aside0.mk hre
  have HE1 := Aside0.mk e1
  clear e1 hre
  dsimp only [cp, cb, cr, cB, Tryd.f32]
  go_upto_region 2 with (go_at_call 34; refine (HN.out _ _ _ _ _ HXI.out hp2).mono ?_; rintro e w3 ⟨r, k, hn, rfl, hx3⟩; (obtain ⟨rfl, rfl⟩ := nx_end hn HE1.out); have HX3 := Aside0.mk hx3; clear hn hx3)
  go_wp2_with (go_at_call 35; refine (HM.out _ _ _ _ _ 0 HX3.out (by omega) (by omega) (by have := HRL.out; omega)).mono ?_; rintro e w4 ⟨rfl, hx4⟩; have HX4 := Aside0.mk hx4; clear hx4)
  go_ret
  have h4 := HX4.out
  rw [ext_take a p 0] at h4
  have h5 : R = ts2 ++ [⟨0, ⟨#[]⟩⟩] := by rw [HRR.out, HRE.out]
  subst h5
  exact ⟨_, 0, rfl, by omega, .inl ⟨rfl, rfl, _, _, _, h4⟩⟩
set_option maxHeartbeats 16000000 in
set_option maxRecDepth 100000 in
theorem arm_0 (K : Nat) (w0 : World) (g : Nat) (a : ByteArray) (p0 : Nat) (R ts2 rest2 : List S48) (p k0 : Nat) (w : World) (Kx : Act → World → Prop) {u2 u3 u4 u5 u6 u7 u8 u9 u10 u11 u12 u13 u14 u15 u16 u17 u18 u19 u20 u21 u22 u23 u24 u25 u26 u27 u28 u29 u30 u31 u32 u33 u34 u35 u36 u37 u38 u39 u40 u41 u42 u43 u44 u45 u46 u47 u48 u49 u50 u51 u52 u53 u54 u55 u56 u57 u58 u59 u60 u61 u62 u63 u64 u65 u66 u67 u68 u69 u70 u71 u72 u73 u74 u75 u76 u77 u78 u79 u80 u81 u82 u83 u84 u85 u86 u87 u88 u89 u90 u91 u92 u93 u94 u95 u96 u97 u98 u99 u100 u101 u102 u103 u104 u105 u106 u107 u108 u109 u110 u111 u112 u113 u114 u115 u116 u117 u118 u119 u120 u121 u122 u123 u124 u125 u126 u127 u128 u129 u130 u131 u132 u133 u134 u135 u136 u137 u138 u139 u140 u141 u142 u143 u144 u145 u146 u147 u148 u149 u150 u151 u152 u153 u154 u155 u156 u157 u158 u159 u160 u161 u162 u163 u164 u165 u166 u167 u168 u169 u170 u171 u172 u173 u174 u175 u176 u177 u178 u179 : Value} (hK : KOk K w0 g a R p Kx) (hx : Lx w0 w g a p p k0 ts2) (hp1 : p0 ≤ p) (hp2 : p ≤ a.size) (hlx : ∃ n, lexF K n (a.data.toList.drop p) = some rest2) (hR : R = ts2 ++ rest2) (hq : a.size ≤ 100000) (hRn : R.length ≤ 100000) (hT : Lib.Utf8Tabs 0 1 w0)
    (c : UInt8) (t : List UInt8) (e1 : a.data.toList.drop p = c :: t) (hc : c.toNat < 128) (hm : c.toNat = 91) :
    Code.wp Tryd.prog (cp (cb (cr (cB Tryd.f32)))) (Exit.then Kx (Exit.inBlock 0 (bodyPost Tryd.prog Tryd.f32 (NormPost K w0 g a R p0)))) ⟨List.toArray (.pointer (some ⟨g, 0, none⟩)::undef::u2::u3::u4::u5::u6::u7::u8::u9::u10::u11::u12::u13::u14::u15::u16::u17::u18::u19::u20::u21::u22::u23::u24::u25::u26::u27::u28::u29::u30::u31::u32::u33::u34::u35::u36::u37::u38::u39::u40::u41::u42::u43::u44::u45::u46::u47::u48::u49::u50::u51::u52::u53::u54::u55::u56::u57::u58::u59::u60::u61::u62::u63::u64::u65::u66::u67::u68::u69::u70::u71::u72::u73::u74::u75::u76::u77::u78::u79::u80::u81::u82::u83::u84::u85::u86::u87::u88::u89::u90::u91::u92::u93::u94::u95::u96::u97::u98::u99::u100::u101::u102::u103::u104::u105::u106::u107::u108::u109::u110::u111::u112::u113::u114::u115::u116::u117::u118::u119::u120::u121::u122::u123::u124::u125::u126::u127::u128::u129::u130::u131::u132::u133::u134::u135::u136::u137::u138::u139::u140::u141::u142::u143::u144::u145::u146::u147::u148::u149::u150::u151::u152::u153::u154::u155::u156::u157::u158::u159::u160::u161::u162::u163::u164::u165::u166::u167::u168::u169::u170::u171::u172::u173::u174::u175::u176::u177::u178::u179::[]), []⟩ w := by
  have HN := Aside0.mk (fun W st p k ts (h : Lx w0 W g a st p k ts) (hp : p ≤ a.size) => next_calls w0 W g a st p k ts h hp hq hT)
  have HPK := Aside0.mk (fun W st p k ts (h : Lx w0 W g a st p k ts) (hp : p ≤ a.size) => peek_calls w0 W g a st p k ts h hp hq hT)
  have HBK := Aside0.mk (fun W st p k (ts : List S48) (h : Lx w0 W g a st p k ts) (hp : k ≤ p) (hq : p ≤ 100000) => back_calls w0 W g a st p k ts h hp hq)
  have HIG := Aside0.mk (fun W st p k ts (h : Lx w0 W g a st p k ts) => ign_calls w0 W g a st p k ts h)
  have HM := Aside0.mk (fun W st p k ts t (h : Lx w0 W g a st p k ts) (h1 : st ≤ p) (h2 : p ≤ a.size) (h3 : ts.length ≤ 200000) => emit_calls w0 W g a st p k ts t h h1 h2 hq h3)
  have HK := Aside0.mk hK
  have HXI := Aside0.mk hx
  have HLL := Aside0.mk hlx
  have HRR := Aside0.mk hR
  have HRL : Aside0 (ts2.length ≤ 100000) := ⟨by have h2 := congrArg List.length hR; rw [List.length_append] at h2; omega⟩
  clear hK hx hlx hR hRn hT
  have HE1 := Aside0.mk e1
  have hsz : p + 1 ≤ a.size := sz_of e1
  obtain ⟨nL, hlex⟩ := HLL.out
  rw [e1] at hlex
  have HLX := Aside0.mk hlex
  have HT1 := Aside0.mk (drop_tail e1)
  clear e1 hlex
  dsimp only [cp, cb, cr, cB, Tryd.f32]
  go_upto_region 2 with (go_at_call 34; refine (HN.out _ _ _ _ _ HXI.out hp2).mono ?_; rintro e w3 ⟨r, k, hn, rfl, hx3⟩; (obtain ⟨rfl, rfl⟩ := nx_asc hn HE1.out hc); have HX3 := Aside0.mk hx3; clear hn hx3)
  have hcc : c = 91 := UInt8.toNat_inj.mp hm
  subst hcc
  obtain ⟨o, ho1, ho2⟩ := lex_tok (by rfl) HLX.out
  have ho3 := tok_sgl 5 rfl (by decide) ho1
  subst ho3
  have HO := Aside0.mk ho2
  have e1 : (((91 : UInt8).toNat : Int)) = 91 := rfl
  (try rw [e1])
  clear ho1 ho2 e1 hm hc
  go_wp2_with (go_at_call 35; refine (HM.out _ _ _ _ _ 5 HX3.out (by omega) hsz (by have := HRL.out; omega)).mono ?_; rintro e w4 ⟨rfl, hx4⟩; have HX4 := Aside0.mk hx4; clear hx4)
  exact HK.out.go (sgl_nr HRR.out HE1.out HO.out hsz HX4.out)
set_option maxHeartbeats 16000000 in
set_option maxRecDepth 100000 in
theorem arm_1 (K : Nat) (w0 : World) (g : Nat) (a : ByteArray) (p0 : Nat) (R ts2 rest2 : List S48) (p k0 : Nat) (w : World) (Kx : Act → World → Prop) {u2 u3 u4 u5 u6 u7 u8 u9 u10 u11 u12 u13 u14 u15 u16 u17 u18 u19 u20 u21 u22 u23 u24 u25 u26 u27 u28 u29 u30 u31 u32 u33 u34 u35 u36 u37 u38 u39 u40 u41 u42 u43 u44 u45 u46 u47 u48 u49 u50 u51 u52 u53 u54 u55 u56 u57 u58 u59 u60 u61 u62 u63 u64 u65 u66 u67 u68 u69 u70 u71 u72 u73 u74 u75 u76 u77 u78 u79 u80 u81 u82 u83 u84 u85 u86 u87 u88 u89 u90 u91 u92 u93 u94 u95 u96 u97 u98 u99 u100 u101 u102 u103 u104 u105 u106 u107 u108 u109 u110 u111 u112 u113 u114 u115 u116 u117 u118 u119 u120 u121 u122 u123 u124 u125 u126 u127 u128 u129 u130 u131 u132 u133 u134 u135 u136 u137 u138 u139 u140 u141 u142 u143 u144 u145 u146 u147 u148 u149 u150 u151 u152 u153 u154 u155 u156 u157 u158 u159 u160 u161 u162 u163 u164 u165 u166 u167 u168 u169 u170 u171 u172 u173 u174 u175 u176 u177 u178 u179 : Value} (hK : KOk K w0 g a R p Kx) (hx : Lx w0 w g a p p k0 ts2) (hp1 : p0 ≤ p) (hp2 : p ≤ a.size) (hlx : ∃ n, lexF K n (a.data.toList.drop p) = some rest2) (hR : R = ts2 ++ rest2) (hq : a.size ≤ 100000) (hRn : R.length ≤ 100000) (hT : Lib.Utf8Tabs 0 1 w0)
    (c : UInt8) (t : List UInt8) (e1 : a.data.toList.drop p = c :: t) (hc : c.toNat < 128) (hm : c.toNat = 93) :
    Code.wp Tryd.prog (cp (cb (cr (cB Tryd.f32)))) (Exit.then Kx (Exit.inBlock 0 (bodyPost Tryd.prog Tryd.f32 (NormPost K w0 g a R p0)))) ⟨List.toArray (.pointer (some ⟨g, 0, none⟩)::undef::u2::u3::u4::u5::u6::u7::u8::u9::u10::u11::u12::u13::u14::u15::u16::u17::u18::u19::u20::u21::u22::u23::u24::u25::u26::u27::u28::u29::u30::u31::u32::u33::u34::u35::u36::u37::u38::u39::u40::u41::u42::u43::u44::u45::u46::u47::u48::u49::u50::u51::u52::u53::u54::u55::u56::u57::u58::u59::u60::u61::u62::u63::u64::u65::u66::u67::u68::u69::u70::u71::u72::u73::u74::u75::u76::u77::u78::u79::u80::u81::u82::u83::u84::u85::u86::u87::u88::u89::u90::u91::u92::u93::u94::u95::u96::u97::u98::u99::u100::u101::u102::u103::u104::u105::u106::u107::u108::u109::u110::u111::u112::u113::u114::u115::u116::u117::u118::u119::u120::u121::u122::u123::u124::u125::u126::u127::u128::u129::u130::u131::u132::u133::u134::u135::u136::u137::u138::u139::u140::u141::u142::u143::u144::u145::u146::u147::u148::u149::u150::u151::u152::u153::u154::u155::u156::u157::u158::u159::u160::u161::u162::u163::u164::u165::u166::u167::u168::u169::u170::u171::u172::u173::u174::u175::u176::u177::u178::u179::[]), []⟩ w := by
  have HN := Aside0.mk (fun W st p k ts (h : Lx w0 W g a st p k ts) (hp : p ≤ a.size) => next_calls w0 W g a st p k ts h hp hq hT)
  have HPK := Aside0.mk (fun W st p k ts (h : Lx w0 W g a st p k ts) (hp : p ≤ a.size) => peek_calls w0 W g a st p k ts h hp hq hT)
  have HBK := Aside0.mk (fun W st p k (ts : List S48) (h : Lx w0 W g a st p k ts) (hp : k ≤ p) (hq : p ≤ 100000) => back_calls w0 W g a st p k ts h hp hq)
  have HIG := Aside0.mk (fun W st p k ts (h : Lx w0 W g a st p k ts) => ign_calls w0 W g a st p k ts h)
  have HM := Aside0.mk (fun W st p k ts t (h : Lx w0 W g a st p k ts) (h1 : st ≤ p) (h2 : p ≤ a.size) (h3 : ts.length ≤ 200000) => emit_calls w0 W g a st p k ts t h h1 h2 hq h3)
  have HK := Aside0.mk hK
  have HXI := Aside0.mk hx
  have HLL := Aside0.mk hlx
  have HRR := Aside0.mk hR
  have HRL : Aside0 (ts2.length ≤ 100000) := ⟨by have h2 := congrArg List.length hR; rw [List.length_append] at h2; omega⟩
  clear hK hx hlx hR hRn hT
  have HE1 := Aside0.mk e1
  have hsz : p + 1 ≤ a.size := sz_of e1
  obtain ⟨nL, hlex⟩ := HLL.out
  rw [e1] at hlex
  have HLX := Aside0.mk hlex
  have HT1 := Aside0.mk (drop_tail e1)
  clear e1 hlex
  dsimp only [cp, cb, cr, cB, Tryd.f32]
  go_upto_region 2 with (go_at_call 34; refine (HN.out _ _ _ _ _ HXI.out hp2).mono ?_; rintro e w3 ⟨r, k, hn, rfl, hx3⟩; (obtain ⟨rfl, rfl⟩ := nx_asc hn HE1.out hc); have HX3 := Aside0.mk hx3; clear hn hx3)
  have hcc : c = 93 := UInt8.toNat_inj.mp hm
  subst hcc
  obtain ⟨o, ho1, ho2⟩ := lex_tok (by rfl) HLX.out
  have ho3 := tok_sgl 6 rfl (by decide) ho1
  subst ho3
  have HO := Aside0.mk ho2
  have e1 : (((93 : UInt8).toNat : Int)) = 93 := rfl
  (try rw [e1])
  clear ho1 ho2 e1 hm hc
  go_wp2_with (go_at_call 35; refine (HM.out _ _ _ _ _ 6 HX3.out (by omega) hsz (by have := HRL.out; omega)).mono ?_; rintro e w4 ⟨rfl, hx4⟩; have HX4 := Aside0.mk hx4; clear hx4)
  exact HK.out.go (sgl_nr HRR.out HE1.out HO.out hsz HX4.out)
set_option maxHeartbeats 16000000 in
set_option maxRecDepth 100000 in
theorem arm_2 (K : Nat) (w0 : World) (g : Nat) (a : ByteArray) (p0 : Nat) (R ts2 rest2 : List S48) (p k0 : Nat) (w : World) (Kx : Act → World → Prop) {u2 u3 u4 u5 u6 u7 u8 u9 u10 u11 u12 u13 u14 u15 u16 u17 u18 u19 u20 u21 u22 u23 u24 u25 u26 u27 u28 u29 u30 u31 u32 u33 u34 u35 u36 u37 u38 u39 u40 u41 u42 u43 u44 u45 u46 u47 u48 u49 u50 u51 u52 u53 u54 u55 u56 u57 u58 u59 u60 u61 u62 u63 u64 u65 u66 u67 u68 u69 u70 u71 u72 u73 u74 u75 u76 u77 u78 u79 u80 u81 u82 u83 u84 u85 u86 u87 u88 u89 u90 u91 u92 u93 u94 u95 u96 u97 u98 u99 u100 u101 u102 u103 u104 u105 u106 u107 u108 u109 u110 u111 u112 u113 u114 u115 u116 u117 u118 u119 u120 u121 u122 u123 u124 u125 u126 u127 u128 u129 u130 u131 u132 u133 u134 u135 u136 u137 u138 u139 u140 u141 u142 u143 u144 u145 u146 u147 u148 u149 u150 u151 u152 u153 u154 u155 u156 u157 u158 u159 u160 u161 u162 u163 u164 u165 u166 u167 u168 u169 u170 u171 u172 u173 u174 u175 u176 u177 u178 u179 : Value} (hK : KOk K w0 g a R p Kx) (hx : Lx w0 w g a p p k0 ts2) (hp1 : p0 ≤ p) (hp2 : p ≤ a.size) (hlx : ∃ n, lexF K n (a.data.toList.drop p) = some rest2) (hR : R = ts2 ++ rest2) (hq : a.size ≤ 100000) (hRn : R.length ≤ 100000) (hT : Lib.Utf8Tabs 0 1 w0)
    (c : UInt8) (t : List UInt8) (e1 : a.data.toList.drop p = c :: t) (hc : c.toNat < 128) (hm : c.toNat = 123) :
    Code.wp Tryd.prog (cp (cb (cr (cB Tryd.f32)))) (Exit.then Kx (Exit.inBlock 0 (bodyPost Tryd.prog Tryd.f32 (NormPost K w0 g a R p0)))) ⟨List.toArray (.pointer (some ⟨g, 0, none⟩)::undef::u2::u3::u4::u5::u6::u7::u8::u9::u10::u11::u12::u13::u14::u15::u16::u17::u18::u19::u20::u21::u22::u23::u24::u25::u26::u27::u28::u29::u30::u31::u32::u33::u34::u35::u36::u37::u38::u39::u40::u41::u42::u43::u44::u45::u46::u47::u48::u49::u50::u51::u52::u53::u54::u55::u56::u57::u58::u59::u60::u61::u62::u63::u64::u65::u66::u67::u68::u69::u70::u71::u72::u73::u74::u75::u76::u77::u78::u79::u80::u81::u82::u83::u84::u85::u86::u87::u88::u89::u90::u91::u92::u93::u94::u95::u96::u97::u98::u99::u100::u101::u102::u103::u104::u105::u106::u107::u108::u109::u110::u111::u112::u113::u114::u115::u116::u117::u118::u119::u120::u121::u122::u123::u124::u125::u126::u127::u128::u129::u130::u131::u132::u133::u134::u135::u136::u137::u138::u139::u140::u141::u142::u143::u144::u145::u146::u147::u148::u149::u150::u151::u152::u153::u154::u155::u156::u157::u158::u159::u160::u161::u162::u163::u164::u165::u166::u167::u168::u169::u170::u171::u172::u173::u174::u175::u176::u177::u178::u179::[]), []⟩ w := by
  have HN := Aside0.mk (fun W st p k ts (h : Lx w0 W g a st p k ts) (hp : p ≤ a.size) => next_calls w0 W g a st p k ts h hp hq hT)
  have HPK := Aside0.mk (fun W st p k ts (h : Lx w0 W g a st p k ts) (hp : p ≤ a.size) => peek_calls w0 W g a st p k ts h hp hq hT)
  have HBK := Aside0.mk (fun W st p k (ts : List S48) (h : Lx w0 W g a st p k ts) (hp : k ≤ p) (hq : p ≤ 100000) => back_calls w0 W g a st p k ts h hp hq)
  have HIG := Aside0.mk (fun W st p k ts (h : Lx w0 W g a st p k ts) => ign_calls w0 W g a st p k ts h)
  have HM := Aside0.mk (fun W st p k ts t (h : Lx w0 W g a st p k ts) (h1 : st ≤ p) (h2 : p ≤ a.size) (h3 : ts.length ≤ 200000) => emit_calls w0 W g a st p k ts t h h1 h2 hq h3)
  have HK := Aside0.mk hK
  have HXI := Aside0.mk hx
  have HLL := Aside0.mk hlx
  have HRR := Aside0.mk hR
  have HRL : Aside0 (ts2.length ≤ 100000) := ⟨by have h2 := congrArg List.length hR; rw [List.length_append] at h2; omega⟩
  clear hK hx hlx hR hRn hT
  have HE1 := Aside0.mk e1
  have hsz : p + 1 ≤ a.size := sz_of e1
  obtain ⟨nL, hlex⟩ := HLL.out
  rw [e1] at hlex
  have HLX := Aside0.mk hlex
  have HT1 := Aside0.mk (drop_tail e1)
  clear e1 hlex
  dsimp only [cp, cb, cr, cB, Tryd.f32]
  go_upto_region 2 with (go_at_call 34; refine (HN.out _ _ _ _ _ HXI.out hp2).mono ?_; rintro e w3 ⟨r, k, hn, rfl, hx3⟩; (obtain ⟨rfl, rfl⟩ := nx_asc hn HE1.out hc); have HX3 := Aside0.mk hx3; clear hn hx3)
  have hcc : c = 123 := UInt8.toNat_inj.mp hm
  subst hcc
  obtain ⟨o, ho1, ho2⟩ := lex_tok (by rfl) HLX.out
  have ho3 := tok_sgl 7 rfl (by decide) ho1
  subst ho3
  have HO := Aside0.mk ho2
  have e1 : (((123 : UInt8).toNat : Int)) = 123 := rfl
  (try rw [e1])
  clear ho1 ho2 e1 hm hc
  go_wp2_with (go_at_call 35; refine (HM.out _ _ _ _ _ 7 HX3.out (by omega) hsz (by have := HRL.out; omega)).mono ?_; rintro e w4 ⟨rfl, hx4⟩; have HX4 := Aside0.mk hx4; clear hx4)
  exact HK.out.go (sgl_nr HRR.out HE1.out HO.out hsz HX4.out)
set_option maxHeartbeats 16000000 in
set_option maxRecDepth 100000 in
theorem arm_3 (K : Nat) (w0 : World) (g : Nat) (a : ByteArray) (p0 : Nat) (R ts2 rest2 : List S48) (p k0 : Nat) (w : World) (Kx : Act → World → Prop) {u2 u3 u4 u5 u6 u7 u8 u9 u10 u11 u12 u13 u14 u15 u16 u17 u18 u19 u20 u21 u22 u23 u24 u25 u26 u27 u28 u29 u30 u31 u32 u33 u34 u35 u36 u37 u38 u39 u40 u41 u42 u43 u44 u45 u46 u47 u48 u49 u50 u51 u52 u53 u54 u55 u56 u57 u58 u59 u60 u61 u62 u63 u64 u65 u66 u67 u68 u69 u70 u71 u72 u73 u74 u75 u76 u77 u78 u79 u80 u81 u82 u83 u84 u85 u86 u87 u88 u89 u90 u91 u92 u93 u94 u95 u96 u97 u98 u99 u100 u101 u102 u103 u104 u105 u106 u107 u108 u109 u110 u111 u112 u113 u114 u115 u116 u117 u118 u119 u120 u121 u122 u123 u124 u125 u126 u127 u128 u129 u130 u131 u132 u133 u134 u135 u136 u137 u138 u139 u140 u141 u142 u143 u144 u145 u146 u147 u148 u149 u150 u151 u152 u153 u154 u155 u156 u157 u158 u159 u160 u161 u162 u163 u164 u165 u166 u167 u168 u169 u170 u171 u172 u173 u174 u175 u176 u177 u178 u179 : Value} (hK : KOk K w0 g a R p Kx) (hx : Lx w0 w g a p p k0 ts2) (hp1 : p0 ≤ p) (hp2 : p ≤ a.size) (hlx : ∃ n, lexF K n (a.data.toList.drop p) = some rest2) (hR : R = ts2 ++ rest2) (hq : a.size ≤ 100000) (hRn : R.length ≤ 100000) (hT : Lib.Utf8Tabs 0 1 w0)
    (c : UInt8) (t : List UInt8) (e1 : a.data.toList.drop p = c :: t) (hc : c.toNat < 128) (hm : c.toNat = 125) :
    Code.wp Tryd.prog (cp (cb (cr (cB Tryd.f32)))) (Exit.then Kx (Exit.inBlock 0 (bodyPost Tryd.prog Tryd.f32 (NormPost K w0 g a R p0)))) ⟨List.toArray (.pointer (some ⟨g, 0, none⟩)::undef::u2::u3::u4::u5::u6::u7::u8::u9::u10::u11::u12::u13::u14::u15::u16::u17::u18::u19::u20::u21::u22::u23::u24::u25::u26::u27::u28::u29::u30::u31::u32::u33::u34::u35::u36::u37::u38::u39::u40::u41::u42::u43::u44::u45::u46::u47::u48::u49::u50::u51::u52::u53::u54::u55::u56::u57::u58::u59::u60::u61::u62::u63::u64::u65::u66::u67::u68::u69::u70::u71::u72::u73::u74::u75::u76::u77::u78::u79::u80::u81::u82::u83::u84::u85::u86::u87::u88::u89::u90::u91::u92::u93::u94::u95::u96::u97::u98::u99::u100::u101::u102::u103::u104::u105::u106::u107::u108::u109::u110::u111::u112::u113::u114::u115::u116::u117::u118::u119::u120::u121::u122::u123::u124::u125::u126::u127::u128::u129::u130::u131::u132::u133::u134::u135::u136::u137::u138::u139::u140::u141::u142::u143::u144::u145::u146::u147::u148::u149::u150::u151::u152::u153::u154::u155::u156::u157::u158::u159::u160::u161::u162::u163::u164::u165::u166::u167::u168::u169::u170::u171::u172::u173::u174::u175::u176::u177::u178::u179::[]), []⟩ w := by
  have HN := Aside0.mk (fun W st p k ts (h : Lx w0 W g a st p k ts) (hp : p ≤ a.size) => next_calls w0 W g a st p k ts h hp hq hT)
  have HPK := Aside0.mk (fun W st p k ts (h : Lx w0 W g a st p k ts) (hp : p ≤ a.size) => peek_calls w0 W g a st p k ts h hp hq hT)
  have HBK := Aside0.mk (fun W st p k (ts : List S48) (h : Lx w0 W g a st p k ts) (hp : k ≤ p) (hq : p ≤ 100000) => back_calls w0 W g a st p k ts h hp hq)
  have HIG := Aside0.mk (fun W st p k ts (h : Lx w0 W g a st p k ts) => ign_calls w0 W g a st p k ts h)
  have HM := Aside0.mk (fun W st p k ts t (h : Lx w0 W g a st p k ts) (h1 : st ≤ p) (h2 : p ≤ a.size) (h3 : ts.length ≤ 200000) => emit_calls w0 W g a st p k ts t h h1 h2 hq h3)
  have HK := Aside0.mk hK
  have HXI := Aside0.mk hx
  have HLL := Aside0.mk hlx
  have HRR := Aside0.mk hR
  have HRL : Aside0 (ts2.length ≤ 100000) := ⟨by have h2 := congrArg List.length hR; rw [List.length_append] at h2; omega⟩
  clear hK hx hlx hR hRn hT
  have HE1 := Aside0.mk e1
  have hsz : p + 1 ≤ a.size := sz_of e1
  obtain ⟨nL, hlex⟩ := HLL.out
  rw [e1] at hlex
  have HLX := Aside0.mk hlex
  have HT1 := Aside0.mk (drop_tail e1)
  clear e1 hlex
  dsimp only [cp, cb, cr, cB, Tryd.f32]
  go_upto_region 2 with (go_at_call 34; refine (HN.out _ _ _ _ _ HXI.out hp2).mono ?_; rintro e w3 ⟨r, k, hn, rfl, hx3⟩; (obtain ⟨rfl, rfl⟩ := nx_asc hn HE1.out hc); have HX3 := Aside0.mk hx3; clear hn hx3)
  have hcc : c = 125 := UInt8.toNat_inj.mp hm
  subst hcc
  obtain ⟨o, ho1, ho2⟩ := lex_tok (by rfl) HLX.out
  have ho3 := tok_sgl 8 rfl (by decide) ho1
  subst ho3
  have HO := Aside0.mk ho2
  have e1 : (((125 : UInt8).toNat : Int)) = 125 := rfl
  (try rw [e1])
  clear ho1 ho2 e1 hm hc
  go_wp2_with (go_at_call 35; refine (HM.out _ _ _ _ _ 8 HX3.out (by omega) hsz (by have := HRL.out; omega)).mono ?_; rintro e w4 ⟨rfl, hx4⟩; have HX4 := Aside0.mk hx4; clear hx4)
  exact HK.out.go (sgl_nr HRR.out HE1.out HO.out hsz HX4.out)
set_option maxHeartbeats 16000000 in
set_option maxRecDepth 100000 in
theorem arm_4 (K : Nat) (w0 : World) (g : Nat) (a : ByteArray) (p0 : Nat) (R ts2 rest2 : List S48) (p k0 : Nat) (w : World) (Kx : Act → World → Prop) {u2 u3 u4 u5 u6 u7 u8 u9 u10 u11 u12 u13 u14 u15 u16 u17 u18 u19 u20 u21 u22 u23 u24 u25 u26 u27 u28 u29 u30 u31 u32 u33 u34 u35 u36 u37 u38 u39 u40 u41 u42 u43 u44 u45 u46 u47 u48 u49 u50 u51 u52 u53 u54 u55 u56 u57 u58 u59 u60 u61 u62 u63 u64 u65 u66 u67 u68 u69 u70 u71 u72 u73 u74 u75 u76 u77 u78 u79 u80 u81 u82 u83 u84 u85 u86 u87 u88 u89 u90 u91 u92 u93 u94 u95 u96 u97 u98 u99 u100 u101 u102 u103 u104 u105 u106 u107 u108 u109 u110 u111 u112 u113 u114 u115 u116 u117 u118 u119 u120 u121 u122 u123 u124 u125 u126 u127 u128 u129 u130 u131 u132 u133 u134 u135 u136 u137 u138 u139 u140 u141 u142 u143 u144 u145 u146 u147 u148 u149 u150 u151 u152 u153 u154 u155 u156 u157 u158 u159 u160 u161 u162 u163 u164 u165 u166 u167 u168 u169 u170 u171 u172 u173 u174 u175 u176 u177 u178 u179 : Value} (hK : KOk K w0 g a R p Kx) (hx : Lx w0 w g a p p k0 ts2) (hp1 : p0 ≤ p) (hp2 : p ≤ a.size) (hlx : ∃ n, lexF K n (a.data.toList.drop p) = some rest2) (hR : R = ts2 ++ rest2) (hq : a.size ≤ 100000) (hRn : R.length ≤ 100000) (hT : Lib.Utf8Tabs 0 1 w0)
    (c : UInt8) (t : List UInt8) (e1 : a.data.toList.drop p = c :: t) (hc : c.toNat < 128) (hm : c.toNat = 60) :
    Code.wp Tryd.prog (cp (cb (cr (cB Tryd.f32)))) (Exit.then Kx (Exit.inBlock 0 (bodyPost Tryd.prog Tryd.f32 (NormPost K w0 g a R p0)))) ⟨List.toArray (.pointer (some ⟨g, 0, none⟩)::undef::u2::u3::u4::u5::u6::u7::u8::u9::u10::u11::u12::u13::u14::u15::u16::u17::u18::u19::u20::u21::u22::u23::u24::u25::u26::u27::u28::u29::u30::u31::u32::u33::u34::u35::u36::u37::u38::u39::u40::u41::u42::u43::u44::u45::u46::u47::u48::u49::u50::u51::u52::u53::u54::u55::u56::u57::u58::u59::u60::u61::u62::u63::u64::u65::u66::u67::u68::u69::u70::u71::u72::u73::u74::u75::u76::u77::u78::u79::u80::u81::u82::u83::u84::u85::u86::u87::u88::u89::u90::u91::u92::u93::u94::u95::u96::u97::u98::u99::u100::u101::u102::u103::u104::u105::u106::u107::u108::u109::u110::u111::u112::u113::u114::u115::u116::u117::u118::u119::u120::u121::u122::u123::u124::u125::u126::u127::u128::u129::u130::u131::u132::u133::u134::u135::u136::u137::u138::u139::u140::u141::u142::u143::u144::u145::u146::u147::u148::u149::u150::u151::u152::u153::u154::u155::u156::u157::u158::u159::u160::u161::u162::u163::u164::u165::u166::u167::u168::u169::u170::u171::u172::u173::u174::u175::u176::u177::u178::u179::[]), []⟩ w := by
  have HN := Aside0.mk (fun W st p k ts (h : Lx w0 W g a st p k ts) (hp : p ≤ a.size) => next_calls w0 W g a st p k ts h hp hq hT)
  have HPK := Aside0.mk (fun W st p k ts (h : Lx w0 W g a st p k ts) (hp : p ≤ a.size) => peek_calls w0 W g a st p k ts h hp hq hT)
  have HBK := Aside0.mk (fun W st p k (ts : List S48) (h : Lx w0 W g a st p k ts) (hp : k ≤ p) (hq : p ≤ 100000) => back_calls w0 W g a st p k ts h hp hq)
  have HIG := Aside0.mk (fun W st p k ts (h : Lx w0 W g a st p k ts) => ign_calls w0 W g a st p k ts h)
  have HM := Aside0.mk (fun W st p k ts t (h : Lx w0 W g a st p k ts) (h1 : st ≤ p) (h2 : p ≤ a.size) (h3 : ts.length ≤ 200000) => emit_calls w0 W g a st p k ts t h h1 h2 hq h3)
  have HK := Aside0.mk hK
  have HXI := Aside0.mk hx
  have HLL := Aside0.mk hlx
  have HRR := Aside0.mk hR
  have HRL : Aside0 (ts2.length ≤ 100000) := ⟨by have h2 := congrArg List.length hR; rw [List.length_append] at h2; omega⟩
  clear hK hx hlx hR hRn hT
  have HE1 := Aside0.mk e1
  have hsz : p + 1 ≤ a.size := sz_of e1
  obtain ⟨nL, hlex⟩ := HLL.out
  rw [e1] at hlex
  have HLX := Aside0.mk hlex
  have HT1 := Aside0.mk (drop_tail e1)
  clear e1 hlex
  dsimp only [cp, cb, cr, cB, Tryd.f32]
  go_upto_region 2 with (go_at_call 34; refine (HN.out _ _ _ _ _ HXI.out hp2).mono ?_; rintro e w3 ⟨r, k, hn, rfl, hx3⟩; (obtain ⟨rfl, rfl⟩ := nx_asc hn HE1.out hc); have HX3 := Aside0.mk hx3; clear hn hx3)
  have hcc : c = 60 := UInt8.toNat_inj.mp hm
  subst hcc
  obtain ⟨o, ho1, ho2⟩ := lex_tok (by rfl) HLX.out
  have ho3 := tok_sgl 9 rfl (by decide) ho1
  subst ho3
  have HO := Aside0.mk ho2
  have e1 : (((60 : UInt8).toNat : Int)) = 60 := rfl
  (try rw [e1])
  clear ho1 ho2 e1 hm hc
  go_wp2_with (go_at_call 35; refine (HM.out _ _ _ _ _ 9 HX3.out (by omega) hsz (by have := HRL.out; omega)).mono ?_; rintro e w4 ⟨rfl, hx4⟩; have HX4 := Aside0.mk hx4; clear hx4)
  exact HK.out.go (sgl_nr HRR.out HE1.out HO.out hsz HX4.out)
set_option maxHeartbeats 16000000 in
set_option maxRecDepth 100000 in
theorem arm_5 (K : Nat) (w0 : World) (g : Nat) (a : ByteArray) (p0 : Nat) (R ts2 rest2 : List S48) (p k0 : Nat) (w : World) (Kx : Act → World → Prop) {u2 u3 u4 u5 u6 u7 u8 u9 u10 u11 u12 u13 u14 u15 u16 u17 u18 u19 u20 u21 u22 u23 u24 u25 u26 u27 u28 u29 u30 u31 u32 u33 u34 u35 u36 u37 u38 u39 u40 u41 u42 u43 u44 u45 u46 u47 u48 u49 u50 u51 u52 u53 u54 u55 u56 u57 u58 u59 u60 u61 u62 u63 u64 u65 u66 u67 u68 u69 u70 u71 u72 u73 u74 u75 u76 u77 u78 u79 u80 u81 u82 u83 u84 u85 u86 u87 u88 u89 u90 u91 u92 u93 u94 u95 u96 u97 u98 u99 u100 u101 u102 u103 u104 u105 u106 u107 u108 u109 u110 u111 u112 u113 u114 u115 u116 u117 u118 u119 u120 u121 u122 u123 u124 u125 u126 u127 u128 u129 u130 u131 u132 u133 u134 u135 u136 u137 u138 u139 u140 u141 u142 u143 u144 u145 u146 u147 u148 u149 u150 u151 u152 u153 u154 u155 u156 u157 u158 u159 u160 u161 u162 u163 u164 u165 u166 u167 u168 u169 u170 u171 u172 u173 u174 u175 u176 u177 u178 u179 : Value} (hK : KOk K w0 g a R p Kx) (hx : Lx w0 w g a p p k0 ts2) (hp1 : p0 ≤ p) (hp2 : p ≤ a.size) (hlx : ∃ n, lexF K n (a.data.toList.drop p) = some rest2) (hR : R = ts2 ++ rest2) (hq : a.size ≤ 100000) (hRn : R.length ≤ 100000) (hT : Lib.Utf8Tabs 0 1 w0)
    (c : UInt8) (t : List UInt8) (e1 : a.data.toList.drop p = c :: t) (hc : c.toNat < 128) (hm : c.toNat = 62) :
    Code.wp Tryd.prog (cp (cb (cr (cB Tryd.f32)))) (Exit.then Kx (Exit.inBlock 0 (bodyPost Tryd.prog Tryd.f32 (NormPost K w0 g a R p0)))) ⟨List.toArray (.pointer (some ⟨g, 0, none⟩)::undef::u2::u3::u4::u5::u6::u7::u8::u9::u10::u11::u12::u13::u14::u15::u16::u17::u18::u19::u20::u21::u22::u23::u24::u25::u26::u27::u28::u29::u30::u31::u32::u33::u34::u35::u36::u37::u38::u39::u40::u41::u42::u43::u44::u45::u46::u47::u48::u49::u50::u51::u52::u53::u54::u55::u56::u57::u58::u59::u60::u61::u62::u63::u64::u65::u66::u67::u68::u69::u70::u71::u72::u73::u74::u75::u76::u77::u78::u79::u80::u81::u82::u83::u84::u85::u86::u87::u88::u89::u90::u91::u92::u93::u94::u95::u96::u97::u98::u99::u100::u101::u102::u103::u104::u105::u106::u107::u108::u109::u110::u111::u112::u113::u114::u115::u116::u117::u118::u119::u120::u121::u122::u123::u124::u125::u126::u127::u128::u129::u130::u131::u132::u133::u134::u135::u136::u137::u138::u139::u140::u141::u142::u143::u144::u145::u146::u147::u148::u149::u150::u151::u152::u153::u154::u155::u156::u157::u158::u159::u160::u161::u162::u163::u164::u165::u166::u167::u168::u169::u170::u171::u172::u173::u174::u175::u176::u177::u178::u179::[]), []⟩ w := by
  have HN := Aside0.mk (fun W st p k ts (h : Lx w0 W g a st p k ts) (hp : p ≤ a.size) => next_calls w0 W g a st p k ts h hp hq hT)
  have HPK := Aside0.mk (fun W st p k ts (h : Lx w0 W g a st p k ts) (hp : p ≤ a.size) => peek_calls w0 W g a st p k ts h hp hq hT)
  have HBK := Aside0.mk (fun W st p k (ts : List S48) (h : Lx w0 W g a st p k ts) (hp : k ≤ p) (hq : p ≤ 100000) => back_calls w0 W g a st p k ts h hp hq)
  have HIG := Aside0.mk (fun W st p k ts (h : Lx w0 W g a st p k ts) => ign_calls w0 W g a st p k ts h)
  have HM := Aside0.mk (fun W st p k ts t (h : Lx w0 W g a st p k ts) (h1 : st ≤ p) (h2 : p ≤ a.size) (h3 : ts.length ≤ 200000) => emit_calls w0 W g a st p k ts t h h1 h2 hq h3)
  have HK := Aside0.mk hK
  have HXI := Aside0.mk hx
  have HLL := Aside0.mk hlx
  have HRR := Aside0.mk hR
  have HRL : Aside0 (ts2.length ≤ 100000) := ⟨by have h2 := congrArg List.length hR; rw [List.length_append] at h2; omega⟩
  clear hK hx hlx hR hRn hT
  have HE1 := Aside0.mk e1
  have hsz : p + 1 ≤ a.size := sz_of e1
  obtain ⟨nL, hlex⟩ := HLL.out
  rw [e1] at hlex
  have HLX := Aside0.mk hlex
  have HT1 := Aside0.mk (drop_tail e1)
  clear e1 hlex
  dsimp only [cp, cb, cr, cB, Tryd.f32]
  go_upto_region 2 with (go_at_call 34; refine (HN.out _ _ _ _ _ HXI.out hp2).mono ?_; rintro e w3 ⟨r, k, hn, rfl, hx3⟩; (obtain ⟨rfl, rfl⟩ := nx_asc hn HE1.out hc); have HX3 := Aside0.mk hx3; clear hn hx3)
  have hcc : c = 62 := UInt8.toNat_inj.mp hm
  subst hcc
  obtain ⟨o, ho1, ho2⟩ := lex_tok (by rfl) HLX.out
  have ho3 := tok_sgl 10 rfl (by decide) ho1
  subst ho3
  have HO := Aside0.mk ho2
  have e1 : (((62 : UInt8).toNat : Int)) = 62 := rfl
  (try rw [e1])
  clear ho1 ho2 e1 hm hc
  go_wp2_with (go_at_call 35; refine (HM.out _ _ _ _ _ 10 HX3.out (by omega) hsz (by have := HRL.out; omega)).mono ?_; rintro e w4 ⟨rfl, hx4⟩; have HX4 := Aside0.mk hx4; clear hx4)
  exact HK.out.go (sgl_nr HRR.out HE1.out HO.out hsz HX4.out)
set_option maxHeartbeats 16000000 in
set_option maxRecDepth 100000 in
theorem arm_6 (K : Nat) (w0 : World) (g : Nat) (a : ByteArray) (p0 : Nat) (R ts2 rest2 : List S48) (p k0 : Nat) (w : World) (Kx : Act → World → Prop) {u2 u3 u4 u5 u6 u7 u8 u9 u10 u11 u12 u13 u14 u15 u16 u17 u18 u19 u20 u21 u22 u23 u24 u25 u26 u27 u28 u29 u30 u31 u32 u33 u34 u35 u36 u37 u38 u39 u40 u41 u42 u43 u44 u45 u46 u47 u48 u49 u50 u51 u52 u53 u54 u55 u56 u57 u58 u59 u60 u61 u62 u63 u64 u65 u66 u67 u68 u69 u70 u71 u72 u73 u74 u75 u76 u77 u78 u79 u80 u81 u82 u83 u84 u85 u86 u87 u88 u89 u90 u91 u92 u93 u94 u95 u96 u97 u98 u99 u100 u101 u102 u103 u104 u105 u106 u107 u108 u109 u110 u111 u112 u113 u114 u115 u116 u117 u118 u119 u120 u121 u122 u123 u124 u125 u126 u127 u128 u129 u130 u131 u132 u133 u134 u135 u136 u137 u138 u139 u140 u141 u142 u143 u144 u145 u146 u147 u148 u149 u150 u151 u152 u153 u154 u155 u156 u157 u158 u159 u160 u161 u162 u163 u164 u165 u166 u167 u168 u169 u170 u171 u172 u173 u174 u175 u176 u177 u178 u179 : Value} (hK : KOk K w0 g a R p Kx) (hx : Lx w0 w g a p p k0 ts2) (hp1 : p0 ≤ p) (hp2 : p ≤ a.size) (hlx : ∃ n, lexF K n (a.data.toList.drop p) = some rest2) (hR : R = ts2 ++ rest2) (hq : a.size ≤ 100000) (hRn : R.length ≤ 100000) (hT : Lib.Utf8Tabs 0 1 w0)
    (c : UInt8) (t : List UInt8) (e1 : a.data.toList.drop p = c :: t) (hc : c.toNat < 128) (hm : c.toNat = 58) :
    Code.wp Tryd.prog (cp (cb (cr (cB Tryd.f32)))) (Exit.then Kx (Exit.inBlock 0 (bodyPost Tryd.prog Tryd.f32 (NormPost K w0 g a R p0)))) ⟨List.toArray (.pointer (some ⟨g, 0, none⟩)::undef::u2::u3::u4::u5::u6::u7::u8::u9::u10::u11::u12::u13::u14::u15::u16::u17::u18::u19::u20::u21::u22::u23::u24::u25::u26::u27::u28::u29::u30::u31::u32::u33::u34::u35::u36::u37::u38::u39::u40::u41::u42::u43::u44::u45::u46::u47::u48::u49::u50::u51::u52::u53::u54::u55::u56::u57::u58::u59::u60::u61::u62::u63::u64::u65::u66::u67::u68::u69::u70::u71::u72::u73::u74::u75::u76::u77::u78::u79::u80::u81::u82::u83::u84::u85::u86::u87::u88::u89::u90::u91::u92::u93::u94::u95::u96::u97::u98::u99::u100::u101::u102::u103::u104::u105::u106::u107::u108::u109::u110::u111::u112::u113::u114::u115::u116::u117::u118::u119::u120::u121::u122::u123::u124::u125::u126::u127::u128::u129::u130::u131::u132::u133::u134::u135::u136::u137::u138::u139::u140::u141::u142::u143::u144::u145::u146::u147::u148::u149::u150::u151::u152::u153::u154::u155::u156::u157::u158::u159::u160::u161::u162::u163::u164::u165::u166::u167::u168::u169::u170::u171::u172::u173::u174::u175::u176::u177::u178::u179::[]), []⟩ w := by
  have HN := Aside0.mk (fun W st p k ts (h : Lx w0 W g a st p k ts) (hp : p ≤ a.size) => next_calls w0 W g a st p k ts h hp hq hT)
  have HPK := Aside0.mk (fun W st p k ts (h : Lx w0 W g a st p k ts) (hp : p ≤ a.size) => peek_calls w0 W g a st p k ts h hp hq hT)
  have HBK := Aside0.mk (fun W st p k (ts : List S48) (h : Lx w0 W g a st p k ts) (hp : k ≤ p) (hq : p ≤ 100000) => back_calls w0 W g a st p k ts h hp hq)
  have HIG := Aside0.mk (fun W st p k ts (h : Lx w0 W g a st p k ts) => ign_calls w0 W g a st p k ts h)
  have HM := Aside0.mk (fun W st p k ts t (h : Lx w0 W g a st p k ts) (h1 : st ≤ p) (h2 : p ≤ a.size) (h3 : ts.length ≤ 200000) => emit_calls w0 W g a st p k ts t h h1 h2 hq h3)
  have HK := Aside0.mk hK
  have HXI := Aside0.mk hx
  have HLL := Aside0.mk hlx
  have HRR := Aside0.mk hR
  have HRL : Aside0 (ts2.length ≤ 100000) := ⟨by have h2 := congrArg List.length hR; rw [List.length_append] at h2; omega⟩
  clear hK hx hlx hR hRn hT
  have HE1 := Aside0.mk e1
  have hsz : p + 1 ≤ a.size := sz_of e1
  obtain ⟨nL, hlex⟩ := HLL.out
  rw [e1] at hlex
  have HLX := Aside0.mk hlex
  have HT1 := Aside0.mk (drop_tail e1)
  clear e1 hlex
  dsimp only [cp, cb, cr, cB, Tryd.f32]
  go_upto_region 2 with (go_at_call 34; refine (HN.out _ _ _ _ _ HXI.out hp2).mono ?_; rintro e w3 ⟨r, k, hn, rfl, hx3⟩; (obtain ⟨rfl, rfl⟩ := nx_asc hn HE1.out hc); have HX3 := Aside0.mk hx3; clear hn hx3)
  have hcc : c = 58 := UInt8.toNat_inj.mp hm
  subst hcc
  obtain ⟨o, ho1, ho2⟩ := lex_tok (by rfl) HLX.out
  have ho3 := tok_sgl 12 rfl (by decide) ho1
  subst ho3
  have HO := Aside0.mk ho2
  have e1 : (((58 : UInt8).toNat : Int)) = 58 := rfl
  (try rw [e1])
  clear ho1 ho2 e1 hm hc
  go_wp2_with (go_at_call 35; refine (HM.out _ _ _ _ _ 12 HX3.out (by omega) hsz (by have := HRL.out; omega)).mono ?_; rintro e w4 ⟨rfl, hx4⟩; have HX4 := Aside0.mk hx4; clear hx4)
  exact HK.out.go (sgl_nr HRR.out HE1.out HO.out hsz HX4.out)
set_option maxHeartbeats 16000000 in
set_option maxRecDepth 100000 in
theorem arm_7 (K : Nat) (w0 : World) (g : Nat) (a : ByteArray) (p0 : Nat) (R ts2 rest2 : List S48) (p k0 : Nat) (w : World) (Kx : Act → World → Prop) {u2 u3 u4 u5 u6 u7 u8 u9 u10 u11 u12 u13 u14 u15 u16 u17 u18 u19 u20 u21 u22 u23 u24 u25 u26 u27 u28 u29 u30 u31 u32 u33 u34 u35 u36 u37 u38 u39 u40 u41 u42 u43 u44 u45 u46 u47 u48 u49 u50 u51 u52 u53 u54 u55 u56 u57 u58 u59 u60 u61 u62 u63 u64 u65 u66 u67 u68 u69 u70 u71 u72 u73 u74 u75 u76 u77 u78 u79 u80 u81 u82 u83 u84 u85 u86 u87 u88 u89 u90 u91 u92 u93 u94 u95 u96 u97 u98 u99 u100 u101 u102 u103 u104 u105 u106 u107 u108 u109 u110 u111 u112 u113 u114 u115 u116 u117 u118 u119 u120 u121 u122 u123 u124 u125 u126 u127 u128 u129 u130 u131 u132 u133 u134 u135 u136 u137 u138 u139 u140 u141 u142 u143 u144 u145 u146 u147 u148 u149 u150 u151 u152 u153 u154 u155 u156 u157 u158 u159 u160 u161 u162 u163 u164 u165 u166 u167 u168 u169 u170 u171 u172 u173 u174 u175 u176 u177 u178 u179 : Value} (hK : KOk K w0 g a R p Kx) (hx : Lx w0 w g a p p k0 ts2) (hp1 : p0 ≤ p) (hp2 : p ≤ a.size) (hlx : ∃ n, lexF K n (a.data.toList.drop p) = some rest2) (hR : R = ts2 ++ rest2) (hq : a.size ≤ 100000) (hRn : R.length ≤ 100000) (hT : Lib.Utf8Tabs 0 1 w0)
    (c : UInt8) (t : List UInt8) (e1 : a.data.toList.drop p = c :: t) (hc : c.toNat < 128) (hm : c.toNat = 44) :
    Code.wp Tryd.prog (cp (cb (cr (cB Tryd.f32)))) (Exit.then Kx (Exit.inBlock 0 (bodyPost Tryd.prog Tryd.f32 (NormPost K w0 g a R p0)))) ⟨List.toArray (.pointer (some ⟨g, 0, none⟩)::undef::u2::u3::u4::u5::u6::u7::u8::u9::u10::u11::u12::u13::u14::u15::u16::u17::u18::u19::u20::u21::u22::u23::u24::u25::u26::u27::u28::u29::u30::u31::u32::u33::u34::u35::u36::u37::u38::u39::u40::u41::u42::u43::u44::u45::u46::u47::u48::u49::u50::u51::u52::u53::u54::u55::u56::u57::u58::u59::u60::u61::u62::u63::u64::u65::u66::u67::u68::u69::u70::u71::u72::u73::u74::u75::u76::u77::u78::u79::u80::u81::u82::u83::u84::u85::u86::u87::u88::u89::u90::u91::u92::u93::u94::u95::u96::u97::u98::u99::u100::u101::u102::u103::u104::u105::u106::u107::u108::u109::u110::u111::u112::u113::u114::u115::u116::u117::u118::u119::u120::u121::u122::u123::u124::u125::u126::u127::u128::u129::u130::u131::u132::u133::u134::u135::u136::u137::u138::u139::u140::u141::u142::u143::u144::u145::u146::u147::u148::u149::u150::u151::u152::u153::u154::u155::u156::u157::u158::u159::u160::u161::u162::u163::u164::u165::u166::u167::u168::u169::u170::u171::u172::u173::u174::u175::u176::u177::u178::u179::[]), []⟩ w := by
  have HN := Aside0.mk (fun W st p k ts (h : Lx w0 W g a st p k ts) (hp : p ≤ a.size) => next_calls w0 W g a st p k ts h hp hq hT)
  have HPK := Aside0.mk (fun W st p k ts (h : Lx w0 W g a st p k ts) (hp : p ≤ a.size) => peek_calls w0 W g a st p k ts h hp hq hT)
  have HBK := Aside0.mk (fun W st p k (ts : List S48) (h : Lx w0 W g a st p k ts) (hp : k ≤ p) (hq : p ≤ 100000) => back_calls w0 W g a st p k ts h hp hq)
  have HIG := Aside0.mk (fun W st p k ts (h : Lx w0 W g a st p k ts) => ign_calls w0 W g a st p k ts h)
  have HM := Aside0.mk (fun W st p k ts t (h : Lx w0 W g a st p k ts) (h1 : st ≤ p) (h2 : p ≤ a.size) (h3 : ts.length ≤ 200000) => emit_calls w0 W g a st p k ts t h h1 h2 hq h3)
  have HK := Aside0.mk hK
  have HXI := Aside0.mk hx
  have HLL := Aside0.mk hlx
  have HRR := Aside0.mk hR
  have HRL : Aside0 (ts2.length ≤ 100000) := ⟨by have h2 := congrArg List.length hR; rw [List.length_append] at h2; omega⟩
  clear hK hx hlx hR hRn hT
  have HE1 := Aside0.mk e1
  have hsz : p + 1 ≤ a.size := sz_of e1
  obtain ⟨nL, hlex⟩ := HLL.out
  rw [e1] at hlex
  have HLX := Aside0.mk hlex
  have HT1 := Aside0.mk (drop_tail e1)
  clear e1 hlex
  dsimp only [cp, cb, cr, cB, Tryd.f32]
  go_upto_region 2 with (go_at_call 34; refine (HN.out _ _ _ _ _ HXI.out hp2).mono ?_; rintro e w3 ⟨r, k, hn, rfl, hx3⟩; (obtain ⟨rfl, rfl⟩ := nx_asc hn HE1.out hc); have HX3 := Aside0.mk hx3; clear hn hx3)
  have hcc : c = 44 := UInt8.toNat_inj.mp hm
  subst hcc
  obtain ⟨o, ho1, ho2⟩ := lex_tok (by rfl) HLX.out
  have ho3 := tok_sgl 11 rfl (by decide) ho1
  subst ho3
  have HO := Aside0.mk ho2
  have e1 : (((44 : UInt8).toNat : Int)) = 44 := rfl
  (try rw [e1])
  clear ho1 ho2 e1 hm hc
  go_wp2_with (go_at_call 35; refine (HM.out _ _ _ _ _ 11 HX3.out (by omega) hsz (by have := HRL.out; omega)).mono ?_; rintro e w4 ⟨rfl, hx4⟩; have HX4 := Aside0.mk hx4; clear hx4)
  exact HK.out.go (sgl_nr HRR.out HE1.out HO.out hsz HX4.out)


end Go.Proofs.YthcafnmagidpiaaDoor.MFnVtTokens
