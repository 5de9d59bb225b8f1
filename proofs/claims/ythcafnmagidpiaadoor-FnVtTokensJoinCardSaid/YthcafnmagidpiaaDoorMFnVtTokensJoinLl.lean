-- Texts of this session, several in one.
import Derived.Test.YthcafnmagidpiaaDoorMFnVtTokensJoinLf
namespace Go.Proofs.YthcafnmagidpiaaDoor.MFnVtTokensJoin
open Go.RowKit Go.Proofs.YthcafnmagidpiaaDoorW.PrintWords Go.Proofs.YthcafnmagidpiaaDoorW.PrintLast Go.Proofs.YthcafnmagidpiaaDoorW.PrintMore
attribute [local go_sem] max2_int min2_int max_two min_two max_three min_three max_four min_four
set_option linter.unusedVariables false
set_option linter.unusedSimpArgs false

set_option maxHeartbeats 16000000 in
set_option maxRecDepth 100000 in
theorem arm_12 (K : Nat) (w0 : World) (g : Nat) (a : ByteArray) (p0 : Nat) (R ts2 rest2 : List S48) (p k0 : Nat) (w : World) (Kx : Act → World → Prop) {u2 u3 u4 u5 u6 u7 u8 u9 u10 u11 u12 u13 u14 u15 u16 u17 u18 u19 u20 u21 u22 u23 u24 u25 u26 u27 u28 u29 u30 u31 u32 u33 u34 u35 u36 u37 u38 u39 u40 u41 u42 u43 u44 u45 u46 u47 u48 u49 u50 u51 u52 u53 u54 u55 u56 u57 u58 u59 u60 u61 u62 u63 u64 u65 u66 u67 u68 u69 u70 u71 u72 u73 u74 u75 u76 u77 u78 u79 u80 u81 u82 u83 u84 u85 u86 u87 u88 u89 u90 u91 u92 u93 u94 u95 u96 u97 u98 u99 u100 u101 u102 u103 u104 u105 u106 u107 u108 u109 u110 u111 u112 u113 u114 u115 u116 u117 u118 u119 u120 u121 u122 u123 u124 u125 u126 u127 u128 u129 u130 u131 u132 u133 u134 u135 u136 u137 u138 u139 u140 u141 u142 u143 u144 u145 u146 u147 u148 u149 u150 u151 u152 u153 u154 u155 u156 u157 u158 u159 u160 u161 u162 u163 u164 u165 u166 u167 u168 u169 u170 u171 u172 u173 u174 u175 u176 u177 u178 u179 : Value} (hK : KOk K w0 g a R p Kx) (hx : Lx w0 w g a p p k0 ts2) (hp1 : p0 ≤ p) (hp2 : p ≤ a.size) (hlx : ∃ n, lexF K n (a.data.toList.drop p) = some rest2) (hR : R = ts2 ++ rest2) (hq : a.size ≤ 100000) (hRn : R.length ≤ 100000) (hT : Lib.Utf8Tabs 0 1 w0)
    (c : UInt8) (t : List UInt8) (e1 : a.data.toList.drop p = c :: t) (hc : c.toNat < 128) (hm : c.toNat = 98) :
    Code.wp Tryd.prog (cp (cb (cr (cB Tryd.f32)))) (Exit.then Kx (Exit.inBlock 0 (bodyPost Tryd.prog Tryd.f32 (NormPost K w0 g a R p0)))) ⟨List.toArray (.pointer (some ⟨g, 0, none⟩)::undef::u2::u3::u4::u5::u6::u7::u8::u9::u10::u11::u12::u13::u14::u15::u16::u17::u18::u19::u20::u21::u22::u23::u24::u25::u26::u27::u28::u29::u30::u31::u32::u33::u34::u35::u36::u37::u38::u39::u40::u41::u42::u43::u44::u45::u46::u47::u48::u49::u50::u51::u52::u53::u54::u55::u56::u57::u58::u59::u60::u61::u62::u63::u64::u65::u66::u67::u68::u69::u70::u71::u72::u73::u74::u75::u76::u77::u78::u79::u80::u81::u82::u83::u84::u85::u86::u87::u88::u89::u90::u91::u92::u93::u94::u95::u96::u97::u98::u99::u100::u101::u102::u103::u104::u105::u106::u107::u108::u109::u110::u111::u112::u113::u114::u115::u116::u117::u118::u119::u120::u121::u122::u123::u124::u125::u126::u127::u128::u129::u130::u131::u132::u133::u134::u135::u136::u137::u138::u139::u140::u141::u142::u143::u144::u145::u146::u147::u148::u149::u150::u151::u152::u153::u154::u155::u156::u157::u158::u159::u160::u161::u162::u163::u164::u165::u166::u167::u168::u169::u170::u171::u172::u173::u174::u175::u176::u177::u178::u179::[]), []⟩ w := by
  have HN := Aside0.mk (fun W st p k ts (h : Lx w0 W g a st p k ts) (hp : p ≤ a.size) => next_calls w0 W g a st p k ts h hp hq hT)
  have HPK := Aside0.mk (fun W st p k ts (h : Lx w0 W g a st p k ts) (hp : p ≤ a.size) => peek_calls w0 W g a st p k ts h hp hq hT)
  have HBK := Aside0.mk (fun W st p k (ts : List S48) (h : Lx w0 W g a st p k ts) (hp : k ≤ p) (hq : p ≤ 100000) => back_calls w0 W g a st p k ts h hp hq)
  have HIG := Aside0.mk (fun W st p k ts (h : Lx w0 W g a st p k ts) => ign_calls w0 W g a st p k ts h)
  have HM := Aside0.mk (fun W st p k ts t (h : Lx w0 W g a st p k ts) (h1 : st ≤ p) (h2 : p ≤ a.size) (h3 : ts.length ≤ 200000) => emit_calls w0 W g a st p k ts t h h1 h2 hq h3)
  have HK := Aside0.mk hK
  have HXI := Aside0.mk hx
  have HLL := Aside0.mk hlx
  have HRR := Aside0.mk hR
  have HRL : Aside0 (ts2.length ≤ 100000) := ⟨by have h2 := congrArg List.length hR; rw [List.length_append] at h2; omega⟩
  clear hK hx hlx hR hRn hT
  have HE1 := Aside0.mk e1
  have hsz : p + 1 ≤ a.size := sz_of e1
  obtain ⟨nL, hlex⟩ := HLL.out
  rw [e1] at hlex
  have HLX := Aside0.mk hlex
  have HT1 := Aside0.mk (drop_tail e1)
  clear e1 hlex
  dsimp only [cp, cb, cr, cB, Tryd.f32]
  go_upto_region 2 with (go_at_call 34; refine (HN.out _ _ _ _ _ HXI.out hp2).mono ?_; rintro e w3 ⟨r, k, hn, rfl, hx3⟩; (obtain ⟨rfl, rfl⟩ := nx_asc hn HE1.out hc); have HX3 := Aside0.mk hx3; clear hn hx3)
  -- b
  have hcc : c = 98 := UInt8.toNat_inj.mp hm
  subst hcc
  obtain ⟨o, ho1, ho2⟩ := lex_tok (by rfl) HLX.out
  have HO := Aside0.mk (And.intro ho1 ho2)
  have hsp := sp_at hc
  have HSP := Aside0.mk (show dbus_zzSpace.f 98 = some false from hsp)
  have HDG := Aside0.mk (show dbus_zzNumber.f 98 = some false from dg_at hc)
  have e1 : (((98 : UInt8).toNat : Int)) = 98 := rfl
  (try rw [e1])
  have HW := Aside0.mk (show Word 98 from ⟨by decide, by decide, by decide, by decide, by decide, by decide⟩)
  clear ho1 ho2 e1 hm hc hsp
  go_upto_region 33 with (first | (go_at_call 39; refine (dbus_zzSpace.calls 98 false _ HSP.out).mono ?_; rintro e w4 ⟨rfl, ⟨m4, rfl⟩⟩) | (go_at_call 41; refine (dbus_zzNumber.calls 98 _ _ HDG.out).mono ?_; rintro e w6 ⟨rfl, ⟨m6, rfl⟩⟩))
  have c1 := HX3.out.c1
  go_upto_region 35 with (go_at_call 43; refine (HPK.out _ _ _ _ _ (by repeat (first | exact HX3.out | apply Lx.drewN)) hsz).mono ?_; rintro e w7 ⟨r, k, hn, rfl, hx7⟩; have HX7 := Aside0.mk hx7; have HNY := Aside0.mk hn; clear hn hx7)
  obtain ⟨b34, h34⟩ : ∃ b, (r == 34) = b := ⟨_, rfl⟩
  obtain ⟨b39, h39⟩ : ∃ b, (r == 39) = b := ⟨_, rfl⟩
  by_cases hqq : b34 = true ∨ b39 = true
  · have hq2 : ∃ q t2, t = q :: t2 ∧ (q = 34 ∨ q = 39) := by
      rcases HNY.out with ⟨_, rfl, _⟩ | ⟨d, t2, e2, hd, rfl, _⟩ | ⟨d, t2, e2, hd, hr, _⟩
      · rw [← h34, ← h39] at hqq; rcases hqq with h | h <;> simp at h
      · refine ⟨d, t2, HT1.out.symm.trans e2, ?_⟩
        rw [← h34, ← h39] at hqq
        rcases hqq with h | h
        · left; rw [beq_iff_eq] at h; exact UInt8.toNat_inj.mp (show d.toNat = 34 by omega)
        · right; rw [beq_iff_eq] at h; exact UInt8.toNat_inj.mp (show d.toNat = 39 by omega)
      · rw [← h34, ← h39] at hqq; rcases hqq with h | h <;> (rw [beq_iff_eq] at h; omega)
    have HQ2 := Aside0.mk hq2
    clear hq2
    cases b34 <;> cases b39 <;> first
      | (exfalso; simp at hqq; done)
      | (go_wp2
         go_ret
         exact ⟨_, _, rfl, by omega, .inr (.inr ⟨p, ts2, rest2, _, o, 98, t, hp2, HRR.out, HE1.out, HO.out.2, rfl, HO.out.1, rfl, .inr (.inr (.inr ⟨rfl, rfl, HQ2.out, by repeat (first | exact HX7.out | apply Lx.drewN)⟩))⟩)⟩)
  · have hb3 : b34 = false := by
      cases b34 with
      | false => rfl
      | true => exact absurd (Or.inl rfl) hqq
    have hb4 : b39 = false := by
      cases b39 with
      | false => rfl
      | true => exact absurd (Or.inr rfl) hqq
    have hnq : ¬ ((98 : UInt8) = 98 ∧ (t.headD 0 = 34 ∨ t.headD 0 = 39)) := by
      rintro ⟨_, hh⟩
      rcases HNY.out with ⟨e2, _⟩ | ⟨d, t2, e2, hd, rfl, _⟩ | ⟨d, t2, e2, hd, hr, _⟩
      · rw [← HT1.out, e2] at hh; rcases hh with hh | hh <;> exact absurd hh (by decide)
      · rw [← HT1.out, e2] at hh
        rw [hb3] at h34
        rw [hb4] at h39
        rcases hh with hh | hh
        · have h2 : d = 34 := hh
          subst h2
          exact absurd h34 (by decide)
        · have h2 : d = 39 := hh
          subst h2
          exact absurd h39 (by decide)
      · rw [← HT1.out, e2] at hh
        rcases hh with hh | hh
        · have h2 : d = 34 := hh
          subst h2
          exact absurd hd (by decide)
        · have h2 : d = 39 := hh
          subst h2
          exact absurd hd (by decide)
    have htw := tok_word (K := K) HW.out hnq
    rw [HO.out.1] at htw
    have HTW := Aside0.mk htw
    rw [hb3] at h34
    rw [hb4] at h39
    have f2 := HX7.out.fz 2
    have f3 := HX7.out.fz 3
    have c2 := HX7.out.c2
    have c3 := HX7.out.c3
    have HBL : Aside0 (blankb 98 = false) := ⟨rfl⟩
    have hw1 : IntKind.i64.wrap ((p : Int) + 1) = ((p + 1 : Nat) : Int) := by rw [IntKind.wrap_i64]; omega
    obtain ⟨P1, hP1⟩ : ∃ P1, p + 1 = P1 := ⟨_, rfl⟩
    rw [hP1] at hw1
    clear hqq hnq htw hb3 hb4 c1
    have c1 := HX7.out.c1
    go_upto_region 40 with (go_at_call 36; refine (HBK.out _ _ _ _ _ (show Lx w0 _ g a p P1 1 ts2 from Lx.set3 (Lx.set2 (by repeat (first | exact HX7.out | apply Lx.drewN)) P1) 1) (by omega) (by omega)).mono ?_; rintro e w5 ⟨rfl, hx5⟩; (rw [show P1 - 1 = p by omega] at hx5); have HX5 := Aside0.mk hx5; clear hx5)
    clear c1 c2 c3 f2 f3 hw1
    have c0 := HX5.out.c0
    have c2 := HX5.out.c2
    have f2 := HX5.out.fz 2
    obtain ⟨P4, hP4⟩ : ∃ P4, p + 4 = P4 := ⟨_, rfl⟩
    obtain ⟨P5, hP5⟩ : ∃ P5, p + 5 = P5 := ⟨_, rfl⟩
    have hw4 : IntKind.i64.wrap ((p : Int) + 4) = (P4 : Int) := by rw [IntKind.wrap_i64]; omega
    have hw5 : IntKind.i64.wrap ((p : Int) + 5) = (P5 : Int) := by rw [IntKind.wrap_i64]; omega
    have i0 : (0 : Int) ≤ (p : Int) := by omega
    have i4 : (p : Int) ≤ (P4 : Int) := by omega
    have i5 : (p : Int) ≤ (P5 : Int) := by omega
    go_quiet (fail)
    by_cases h4 : P4 ≤ a.size
    · have d4 : decide ((P4 : Int) ≤ (a.size : Int)) = true := decide_eq_true (by omega)
      have d4n : decide (P4 ≤ a.size) = true := decide_eq_true h4
      have j4 : (P4 : Int) ≤ (a.size : Int) := by omega
      by_cases ht : (a.extract p P4).toList = [116, 114, 117, 101]
      · have t4 : ((a.extract p P4).toList == [116, 114, 117, 101]) = true := beq_iff_eq.2 ht
        have HS4 := Aside0.mk (word_true hP4 HE1.out HTW.out HO.out.2 ht)
        go_upto_region 41 with (fail)
        go_quiet (fail)
        go_wp2_with (go_at_call 35; refine (HM.out _ _ _ _ _ 4 (show Lx w0 _ g a p P4 1 ts2 from by repeat (first | exact HX5.out | apply Lx.drewN | apply Lx.drew | apply Lx.set2)) (by omega) h4 (by have := HRL.out; omega)).mono ?_; rintro e w8 ⟨rfl, hx8⟩; have HX8 := Aside0.mk hx8; clear hx8)
        exact HK.out.go (word_nr HRR.out HS4.out (by omega) h4 HX8.out)
      · have t4 : ((a.extract p P4).toList == [116, 114, 117, 101]) = false := beq_eq_false_iff_ne.2 ht
        have HS4 := Aside0.mk (word_not4 hP4 HE1.out HTW.out ht)
        go_upto_region 41 with (fail)
        go_quiet (fail)
        go_upto_region 44 with (fail)
        go_quiet (fail)
        by_cases h5 : P5 ≤ a.size
        · have d5 : decide ((P5 : Int) ≤ (a.size : Int)) = true := decide_eq_true (by omega)
          have d5n : decide (P5 ≤ a.size) = true := decide_eq_true h5
          have j5 : (P5 : Int) ≤ (a.size : Int) := by omega
          by_cases ht5 : (a.extract p P5).toList = [102, 97, 108, 115, 101]
          · have t5 : ((a.extract p P5).toList == [102, 97, 108, 115, 101]) = true := beq_iff_eq.2 ht5
            have HS5 := Aside0.mk (word_false hP5 HE1.out HS4.out HO.out.2 ht5)
            go_upto_region 45 with (fail)
            go_quiet (fail)
            go_wp2_with (go_at_call 35; refine (HM.out _ _ _ _ _ 4 (show Lx w0 _ g a p P5 1 ts2 from by repeat (first | exact HX5.out | apply Lx.drewN | apply Lx.drew | apply Lx.set2)) (by omega) h5 (by have := HRL.out; omega)).mono ?_; rintro e w8 ⟨rfl, hx8⟩; have HX8 := Aside0.mk hx8; clear hx8)
            exact HK.out.go (word_nr HRR.out HS5.out (by omega) h5 HX8.out)
          · have t5 : ((a.extract p P5).toList == [102, 97, 108, 115, 101]) = false := beq_eq_false_iff_ne.2 ht5
            have HS5 := Aside0.mk (word_not5 hP5 HE1.out HS4.out ht5)
            go_upto_region 45 with (fail)
            go_quiet (fail)
            go_wp2
            go_ret
            exact ⟨_, _, rfl, by omega, .inr (.inr ⟨p, ts2, rest2, _, o, _, t, hp2, HRR.out, HE1.out, HO.out.2, HBL.out, HO.out.1, rfl, .inr (.inl ⟨rfl, HS5.out, by repeat (first | exact HX5.out | apply Lx.drewN)⟩)⟩)⟩
        · have d5 : decide ((P5 : Int) ≤ (a.size : Int)) = false := decide_eq_false (by omega)
          have d5n : decide (P5 ≤ a.size) = false := decide_eq_false h5
          have HS5 := Aside0.mk (word_short5 hP5 HE1.out HS4.out h5)
          go_wp2
          go_ret
          exact ⟨_, _, rfl, by omega, .inr (.inr ⟨p, ts2, rest2, _, o, _, t, hp2, HRR.out, HE1.out, HO.out.2, HBL.out, HO.out.1, rfl, .inr (.inl ⟨rfl, HS5.out, by repeat (first | exact HX5.out | apply Lx.drewN)⟩)⟩)⟩
    · have d4 : decide ((P4 : Int) ≤ (a.size : Int)) = false := decide_eq_false (by omega)
      have d4n : decide (P4 ≤ a.size) = false := decide_eq_false h4
      have HS4 := Aside0.mk (word_short4 hP4 HE1.out HTW.out h4)
      go_upto_region 44 with (fail)
      go_quiet (fail)
      have h5 : ¬ P5 ≤ a.size := by omega
      have d5 : decide ((P5 : Int) ≤ (a.size : Int)) = false := decide_eq_false (by omega)
      have d5n : decide (P5 ≤ a.size) = false := decide_eq_false h5
      have HS5 := Aside0.mk (word_short5 hP5 HE1.out HS4.out h5)
      go_wp2
      go_ret
      exact ⟨_, _, rfl, by omega, .inr (.inr ⟨p, ts2, rest2, _, o, _, t, hp2, HRR.out, HE1.out, HO.out.2, HBL.out, HO.out.1, rfl, .inr (.inl ⟨rfl, HS5.out, by repeat (first | exact HX5.out | apply Lx.drewN)⟩)⟩)⟩


end Go.Proofs.YthcafnmagidpiaaDoor.MFnVtTokensJoin

namespace Go.Proofs.YthcafnmagidpiaaDoor.MFnVtTokensJoin
open Go.RowKit Go.Proofs.YthcafnmagidpiaaDoorW.PrintWords Go.Proofs.YthcafnmagidpiaaDoorW.PrintLast Go.Proofs.YthcafnmagidpiaaDoorW.PrintMore
attribute [local go_sem] max2_int min2_int max_two min_two max_three min_three max_four min_four
set_option linter.unusedVariables false
set_option linter.unusedSimpArgs false

set_option maxHeartbeats 16000000 in
set_option maxRecDepth 100000 in
theorem arm_13 (K : Nat) (w0 : World) (g : Nat) (a : ByteArray) (p0 : Nat) (R ts2 rest2 : List S48) (p k0 : Nat) (w : World) (Kx : Act → World → Prop) {u2 u3 u4 u5 u6 u7 u8 u9 u10 u11 u12 u13 u14 u15 u16 u17 u18 u19 u20 u21 u22 u23 u24 u25 u26 u27 u28 u29 u30 u31 u32 u33 u34 u35 u36 u37 u38 u39 u40 u41 u42 u43 u44 u45 u46 u47 u48 u49 u50 u51 u52 u53 u54 u55 u56 u57 u58 u59 u60 u61 u62 u63 u64 u65 u66 u67 u68 u69 u70 u71 u72 u73 u74 u75 u76 u77 u78 u79 u80 u81 u82 u83 u84 u85 u86 u87 u88 u89 u90 u91 u92 u93 u94 u95 u96 u97 u98 u99 u100 u101 u102 u103 u104 u105 u106 u107 u108 u109 u110 u111 u112 u113 u114 u115 u116 u117 u118 u119 u120 u121 u122 u123 u124 u125 u126 u127 u128 u129 u130 u131 u132 u133 u134 u135 u136 u137 u138 u139 u140 u141 u142 u143 u144 u145 u146 u147 u148 u149 u150 u151 u152 u153 u154 u155 u156 u157 u158 u159 u160 u161 u162 u163 u164 u165 u166 u167 u168 u169 u170 u171 u172 u173 u174 u175 u176 u177 u178 u179 : Value} (hK : KOk K w0 g a R p Kx) (hx : Lx w0 w g a p p k0 ts2) (hp1 : p0 ≤ p) (hp2 : p ≤ a.size) (hlx : ∃ n, lexF K n (a.data.toList.drop p) = some rest2) (hR : R = ts2 ++ rest2) (hq : a.size ≤ 100000) (hRn : R.length ≤ 100000) (hT : Lib.Utf8Tabs 0 1 w0)
    (c : UInt8) (t : List UInt8) (e1 : a.data.toList.drop p = c :: t) (hc : c.toNat < 128) (hm : c.toNat ≠ 91 ∧ c.toNat ≠ 93 ∧ c.toNat ≠ 123 ∧ c.toNat ≠ 125 ∧ c.toNat ≠ 60 ∧ c.toNat ≠ 62 ∧ c.toNat ≠ 58 ∧ c.toNat ≠ 44 ∧ c.toNat ≠ 39 ∧ c.toNat ≠ 34 ∧ c.toNat ≠ 64 ∧ c.toNat ≠ 98 ∧ ¬ (c.toNat = 32 ∨ (9 ≤ c.toNat ∧ c.toNat ≤ 13)) ∧ ¬ ((48 ≤ c.toNat ∧ c.toNat ≤ 57) ∨ c.toNat = 43 ∨ c.toNat = 45)) :
    Code.wp Tryd.prog (cp (cb (cr (cB Tryd.f32)))) (Exit.then Kx (Exit.inBlock 0 (bodyPost Tryd.prog Tryd.f32 (NormPost K w0 g a R p0)))) ⟨List.toArray (.pointer (some ⟨g, 0, none⟩)::undef::u2::u3::u4::u5::u6::u7::u8::u9::u10::u11::u12::u13::u14::u15::u16::u17::u18::u19::u20::u21::u22::u23::u24::u25::u26::u27::u28::u29::u30::u31::u32::u33::u34::u35::u36::u37::u38::u39::u40::u41::u42::u43::u44::u45::u46::u47::u48::u49::u50::u51::u52::u53::u54::u55::u56::u57::u58::u59::u60::u61::u62::u63::u64::u65::u66::u67::u68::u69::u70::u71::u72::u73::u74::u75::u76::u77::u78::u79::u80::u81::u82::u83::u84::u85::u86::u87::u88::u89::u90::u91::u92::u93::u94::u95::u96::u97::u98::u99::u100::u101::u102::u103::u104::u105::u106::u107::u108::u109::u110::u111::u112::u113::u114::u115::u116::u117::u118::u119::u120::u121::u122::u123::u124::u125::u126::u127::u128::u129::u130::u131::u132::u133::u134::u135::u136::u137::u138::u139::u140::u141::u142::u143::u144::u145::u146::u147::u148::u149::u150::u151::u152::u153::u154::u155::u156::u157::u158::u159::u160::u161::u162::u163::u164::u165::u166::u167::u168::u169::u170::u171::u172::u173::u174::u175::u176::u177::u178::u179::[]), []⟩ w := by
  have HN := Aside0.mk (fun W st p k ts (h : Lx w0 W g a st p k ts) (hp : p ≤ a.size) => next_calls w0 W g a st p k ts h hp hq hT)
  have HPK := Aside0.mk (fun W st p k ts (h : Lx w0 W g a st p k ts) (hp : p ≤ a.size) => peek_calls w0 W g a st p k ts h hp hq hT)
  have HBK := Aside0.mk (fun W st p k (ts : List S48) (h : Lx w0 W g a st p k ts) (hp : k ≤ p) (hq : p ≤ 100000) => back_calls w0 W g a st p k ts h hp hq)
  have HIG := Aside0.mk (fun W st p k ts (h : Lx w0 W g a st p k ts) => ign_calls w0 W g a st p k ts h)
  have HM := Aside0.mk (fun W st p k ts t (h : Lx w0 W g a st p k ts) (h1 : st ≤ p) (h2 : p ≤ a.size) (h3 : ts.length ≤ 200000) => emit_calls w0 W g a st p k ts t h h1 h2 hq h3)
  have HK := Aside0.mk hK
  have HXI := Aside0.mk hx
  have HLL := Aside0.mk hlx
  have HRR := Aside0.mk hR
  have HRL : Aside0 (ts2.length ≤ 100000) := ⟨by have h2 := congrArg List.length hR; rw [List.length_append] at h2; omega⟩
  clear hK hx hlx hR hRn hT
  have HE1 := Aside0.mk e1
  have hsz : p + 1 ≤ a.size := sz_of e1
  obtain ⟨nL, hlex⟩ := HLL.out
  rw [e1] at hlex
  have HLX := Aside0.mk hlex
  have HT1 := Aside0.mk (drop_tail e1)
  clear e1 hlex
  dsimp only [cp, cb, cr, cB, Tryd.f32]
  go_upto_region 2 with (go_at_call 34; refine (HN.out _ _ _ _ _ HXI.out hp2).mono ?_; rintro e w3 ⟨r, k, hn, rfl, hx3⟩; (obtain ⟨rfl, rfl⟩ := nx_asc hn HE1.out hc); have HX3 := Aside0.mk hx3; clear hn hx3)
  -- a word
  have hb : blankb c = false := decide_eq_false (by omega)
  have hsp := sp_at hc
  rw [hb] at hsp
  have HSP := Aside0.mk hsp
  have hdg := dg_at hc
  rw [show decide (48 ≤ c.toNat ∧ c.toNat ≤ 57) = false from decide_eq_false (by omega)] at hdg
  have HDG := Aside0.mk hdg
  obtain ⟨o, ho1, ho2⟩ := lex_tok hb HLX.out
  have HO := Aside0.mk (And.intro ho1 ho2)
  have HBL := Aside0.mk hb
  have hne : ∀ d : UInt8, c.toNat ≠ d.toNat → c ≠ d := fun d h e => h (by rw [e])
  have hW : Word c := ⟨⟨hne 91 (by show c.toNat ≠ 91; omega), hne 93 (by show c.toNat ≠ 93; omega), hne 123 (by show c.toNat ≠ 123; omega), hne 125 (by show c.toNat ≠ 125; omega), hne 60 (by show c.toNat ≠ 60; omega), hne 62 (by show c.toNat ≠ 62; omega), hne 58 (by show c.toNat ≠ 58; omega), hne 44 (by show c.toNat ≠ 44; omega)⟩, hne 39 (by show c.toNat ≠ 39; omega), hne 34 (by show c.toNat ≠ 34; omega), hne 64 (by show c.toNat ≠ 64; omega), hc, by omega⟩
  have htw := tok_word (K := K) (t := t) hW (by rintro ⟨h, _⟩; exact hne 98 (by show c.toNat ≠ 98; omega) h)
  rw [ho1] at htw
  have HTW := Aside0.mk htw
  have nm1 : ((c.toNat : Int) == (-1)) = false := beq_eq_false_iff_ne.2 (by omega)
  have n91 : ((c.toNat : Int) == 91) = false := beq_eq_false_iff_ne.2 (by omega)
  have n93 : ((c.toNat : Int) == 93) = false := beq_eq_false_iff_ne.2 (by omega)
  have n123 : ((c.toNat : Int) == 123) = false := beq_eq_false_iff_ne.2 (by omega)
  have n125 : ((c.toNat : Int) == 125) = false := beq_eq_false_iff_ne.2 (by omega)
  have n60 : ((c.toNat : Int) == 60) = false := beq_eq_false_iff_ne.2 (by omega)
  have n62 : ((c.toNat : Int) == 62) = false := beq_eq_false_iff_ne.2 (by omega)
  have n58 : ((c.toNat : Int) == 58) = false := beq_eq_false_iff_ne.2 (by omega)
  have n44 : ((c.toNat : Int) == 44) = false := beq_eq_false_iff_ne.2 (by omega)
  have n39 : ((c.toNat : Int) == 39) = false := beq_eq_false_iff_ne.2 (by omega)
  have n34 : ((c.toNat : Int) == 34) = false := beq_eq_false_iff_ne.2 (by omega)
  have n64 : ((c.toNat : Int) == 64) = false := beq_eq_false_iff_ne.2 (by omega)
  have n43 : ((c.toNat : Int) == 43) = false := beq_eq_false_iff_ne.2 (by omega)
  have n45 : ((c.toNat : Int) == 45) = false := beq_eq_false_iff_ne.2 (by omega)
  have n98 : ((c.toNat : Int) == 98) = false := beq_eq_false_iff_ne.2 (by omega)
  clear hb hsp hdg ho1 ho2 hne hW htw
  go_upto_region 40 with (first | (go_at_call 39; refine (dbus_zzSpace.calls (c.toNat : Int) false _ HSP.out).mono ?_; rintro e w4 ⟨rfl, ⟨m4, rfl⟩⟩) | (go_at_call 41; refine (dbus_zzNumber.calls (c.toNat : Int) _ _ HDG.out).mono ?_; rintro e w6 ⟨rfl, ⟨m6, rfl⟩⟩) | (go_at_call 36; refine (HBK.out _ _ _ _ _ (by repeat (first | exact HX3.out | apply Lx.drewN)) (by omega) (by omega)).mono ?_; rintro e w5 ⟨rfl, hx5⟩; (rw [Nat.add_sub_cancel] at hx5); have HX5 := Aside0.mk hx5; clear hx5))
  clear hm
  have c0 := HX5.out.c0
  have c2 := HX5.out.c2
  have f2 := HX5.out.fz 2
  obtain ⟨P4, hP4⟩ : ∃ P4, p + 4 = P4 := ⟨_, rfl⟩
  obtain ⟨P5, hP5⟩ : ∃ P5, p + 5 = P5 := ⟨_, rfl⟩
  have hw4 : IntKind.i64.wrap ((p : Int) + 4) = (P4 : Int) := by rw [IntKind.wrap_i64]; omega
  have hw5 : IntKind.i64.wrap ((p : Int) + 5) = (P5 : Int) := by rw [IntKind.wrap_i64]; omega
  have i0 : (0 : Int) ≤ (p : Int) := by omega
  have i4 : (p : Int) ≤ (P4 : Int) := by omega
  have i5 : (p : Int) ≤ (P5 : Int) := by omega
  go_quiet (fail)
  by_cases h4 : P4 ≤ a.size
  · have d4 : decide ((P4 : Int) ≤ (a.size : Int)) = true := decide_eq_true (by omega)
    have d4n : decide (P4 ≤ a.size) = true := decide_eq_true h4
    have j4 : (P4 : Int) ≤ (a.size : Int) := by omega
    by_cases ht : (a.extract p P4).toList = [116, 114, 117, 101]
    · have t4 : ((a.extract p P4).toList == [116, 114, 117, 101]) = true := beq_iff_eq.2 ht
      have HS4 := Aside0.mk (word_true hP4 HE1.out HTW.out HO.out.2 ht)
      go_upto_region 41 with (fail)
      go_quiet (fail)
      go_wp2_with (go_at_call 35; refine (HM.out _ _ _ _ _ 4 (show Lx w0 _ g a p P4 1 ts2 from by repeat (first | exact HX5.out | apply Lx.drewN | apply Lx.drew | apply Lx.set2)) (by omega) h4 (by have := HRL.out; omega)).mono ?_; rintro e w8 ⟨rfl, hx8⟩; have HX8 := Aside0.mk hx8; clear hx8)
      exact HK.out.go (word_nr HRR.out HS4.out (by omega) h4 HX8.out)
    · have t4 : ((a.extract p P4).toList == [116, 114, 117, 101]) = false := beq_eq_false_iff_ne.2 ht
      have HS4 := Aside0.mk (word_not4 hP4 HE1.out HTW.out ht)
      go_upto_region 41 with (fail)
      go_quiet (fail)
      go_upto_region 44 with (fail)
      go_quiet (fail)
      by_cases h5 : P5 ≤ a.size
      · have d5 : decide ((P5 : Int) ≤ (a.size : Int)) = true := decide_eq_true (by omega)
        have d5n : decide (P5 ≤ a.size) = true := decide_eq_true h5
        have j5 : (P5 : Int) ≤ (a.size : Int) := by omega
        by_cases ht5 : (a.extract p P5).toList = [102, 97, 108, 115, 101]
        · have t5 : ((a.extract p P5).toList == [102, 97, 108, 115, 101]) = true := beq_iff_eq.2 ht5
          have HS5 := Aside0.mk (word_false hP5 HE1.out HS4.out HO.out.2 ht5)
          go_upto_region 45 with (fail)
          go_quiet (fail)
          go_wp2_with (go_at_call 35; refine (HM.out _ _ _ _ _ 4 (show Lx w0 _ g a p P5 1 ts2 from by repeat (first | exact HX5.out | apply Lx.drewN | apply Lx.drew | apply Lx.set2)) (by omega) h5 (by have := HRL.out; omega)).mono ?_; rintro e w8 ⟨rfl, hx8⟩; have HX8 := Aside0.mk hx8; clear hx8)
          exact HK.out.go (word_nr HRR.out HS5.out (by omega) h5 HX8.out)
        · have t5 : ((a.extract p P5).toList == [102, 97, 108, 115, 101]) = false := beq_eq_false_iff_ne.2 ht5
          have HS5 := Aside0.mk (word_not5 hP5 HE1.out HS4.out ht5)
          go_upto_region 45 with (fail)
          go_quiet (fail)
          go_wp2
          go_ret
          exact ⟨_, _, rfl, by omega, .inr (.inr ⟨p, ts2, rest2, _, o, _, t, hp2, HRR.out, HE1.out, HO.out.2, HBL.out, HO.out.1, rfl, .inr (.inl ⟨rfl, HS5.out, by repeat (first | exact HX5.out | apply Lx.drewN)⟩)⟩)⟩
      · have d5 : decide ((P5 : Int) ≤ (a.size : Int)) = false := decide_eq_false (by omega)
        have d5n : decide (P5 ≤ a.size) = false := decide_eq_false h5
        have HS5 := Aside0.mk (word_short5 hP5 HE1.out HS4.out h5)
        go_wp2
        go_ret
        exact ⟨_, _, rfl, by omega, .inr (.inr ⟨p, ts2, rest2, _, o, _, t, hp2, HRR.out, HE1.out, HO.out.2, HBL.out, HO.out.1, rfl, .inr (.inl ⟨rfl, HS5.out, by repeat (first | exact HX5.out | apply Lx.drewN)⟩)⟩)⟩
  · have d4 : decide ((P4 : Int) ≤ (a.size : Int)) = false := decide_eq_false (by omega)
    have d4n : decide (P4 ≤ a.size) = false := decide_eq_false h4
    have HS4 := Aside0.mk (word_short4 hP4 HE1.out HTW.out h4)
    go_upto_region 44 with (fail)
    go_quiet (fail)
    have h5 : ¬ P5 ≤ a.size := by omega
    have d5 : decide ((P5 : Int) ≤ (a.size : Int)) = false := decide_eq_false (by omega)
    have d5n : decide (P5 ≤ a.size) = false := decide_eq_false h5
    have HS5 := Aside0.mk (word_short5 hP5 HE1.out HS4.out h5)
    go_wp2
    go_ret
    exact ⟨_, _, rfl, by omega, .inr (.inr ⟨p, ts2, rest2, _, o, _, t, hp2, HRR.out, HE1.out, HO.out.2, HBL.out, HO.out.1, rfl, .inr (.inl ⟨rfl, HS5.out, by repeat (first | exact HX5.out | apply Lx.drewN)⟩)⟩)⟩


end Go.Proofs.YthcafnmagidpiaaDoor.MFnVtTokensJoin
