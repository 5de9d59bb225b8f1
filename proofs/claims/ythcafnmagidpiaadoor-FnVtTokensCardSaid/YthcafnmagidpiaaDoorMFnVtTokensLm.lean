-- A trial text of this session.
import Derived.Test.YthcafnmagidpiaaDoorMFnVtTokensLg
import Derived.Test.YthcafnmagidpiaaDoorMFnVtTokensLi
import Derived.Test.YthcafnmagidpiaaDoorMFnVtTokensLj
import Derived.Test.YthcafnmagidpiaaDoorMFnVtTokensLl
namespace Go.Proofs.YthcafnmagidpiaaDoor.MFnVtTokens
open Go.RowKit Go.Proofs.YthcafnmagidpiaaDoorW.PrintWords Go.Proofs.YthcafnmagidpiaaDoorW.PrintLast Go.Proofs.YthcafnmagidpiaaDoorW.PrintMore
attribute [local go_sem] max2_int min2_int max_two min_two max_three min_three max_four min_four
set_option linter.unusedVariables false
set_option linter.unusedSimpArgs false


set_option maxHeartbeats 16000000 in
set_option maxRecDepth 100000 in
theorem norm_calls (K : Nat) (w0 w : World) (g : Nat) (a : ByteArray) (p0 wd : Nat) (R ts : List S48) (n : Nat) (rest : List S48) (hx : Lx w0 w g a p0 p0 wd ts) (hp : p0 ≤ a.size) (hl : lexF K n (a.data.toList.drop p0) = some rest) (hR : R = ts ++ rest) (hq : a.size ≤ 100000) (hn : R.length ≤ 100000) (hT : Lib.Utf8Tabs 0 1 w0) :
    Calls Tryd.prog 32 #[.pointer (some ⟨g, 0, none⟩)] w (NormPost K w0 g a R p0) := by
  have HX := Aside0.mk hx
  have HL := Aside0.mk hl
  have HR := Aside0.mk hR
  have HRN := Aside0.mk hn
  have HTT := Aside0.mk hT
  clear hx hl hR hT hn
  go_enter Tryd.func32, Tryd.ntmps32
  go_wp2
  go_loopg [] (a.size - p0) (fun kq w' => ∃ (p k : Nat) (ts2 rest2 : List S48), p0 ≤ p ∧ p ≤ a.size ∧ Aside0 (kq = a.size - p ∧ Lx w0 w' g a p p k ts2 ∧ (∃ n, lexF K n (a.data.toList.drop p) = some rest2) ∧ R = ts2 ++ rest2))
  case atStart => exact ⟨p0, _, ts, rest, Nat.le_refl _, hp, ⟨rfl, HX.out, ⟨n, HL.out⟩, HR.out⟩⟩
  case round =>
    clear HX HL HR
    rename_i JJ KKx hJJ hHH
    obtain ⟨p, k0, ts2, rest2, hp1, hp2, HI⟩ := hrel
    cases hl : a.data.toList.drop p with
    | nil =>
      refine arm_end K w0 g a p0 R ts2 rest2 p k0 wr _ ?_ HI.out.2.1 hp1 hp2 HI.out.2.2.1 HI.out.2.2.2 hq HRN.out HTT.out hl
      unfold KOk
      intros
      rename_i w' h
      obtain ⟨p2, k2, ts3, rest3, hpp, hps, hx3, hl3, hr3⟩ := h
      have HX3 := Aside0.mk (And.intro hx3 (And.intro hl3 hr3))
      clear hx3 hl3 hr3
      refine hHH _ _ ?_
      go_roundg (a.size - p2)
      case measure => have := HI.out.1; omega
      case rel => exact ⟨p2, k2, ts3, rest3, by omega, hps, ⟨rfl, HX3.out.1, HX3.out.2.1, HX3.out.2.2⟩⟩
    | cons c t =>
      by_cases hc : c.toNat < 128
      · have hm : c.toNat = 91 ∨ c.toNat = 93 ∨ c.toNat = 123 ∨ c.toNat = 125 ∨ c.toNat = 60 ∨ c.toNat = 62 ∨ c.toNat = 58 ∨ c.toNat = 44 ∨ (c.toNat = 39 ∨ c.toNat = 34) ∨ c.toNat = 64 ∨ (c.toNat = 32 ∨ (9 ≤ c.toNat ∧ c.toNat ≤ 13)) ∨ ((48 ≤ c.toNat ∧ c.toNat ≤ 57) ∨ c.toNat = 43 ∨ c.toNat = 45) ∨ c.toNat = 98 ∨ (c.toNat ≠ 91 ∧ c.toNat ≠ 93 ∧ c.toNat ≠ 123 ∧ c.toNat ≠ 125 ∧ c.toNat ≠ 60 ∧ c.toNat ≠ 62 ∧ c.toNat ≠ 58 ∧ c.toNat ≠ 44 ∧ c.toNat ≠ 39 ∧ c.toNat ≠ 34 ∧ c.toNat ≠ 64 ∧ c.toNat ≠ 98 ∧ ¬ (c.toNat = 32 ∨ (9 ≤ c.toNat ∧ c.toNat ≤ 13)) ∧ ¬ ((48 ≤ c.toNat ∧ c.toNat ≤ 57) ∨ c.toNat = 43 ∨ c.toNat = 45)) := by omega
        rcases hm with hm | hm | hm | hm | hm | hm | hm | hm | hm | hm | hm | hm | hm | hm
        · refine arm_0 K w0 g a p0 R ts2 rest2 p k0 wr _ ?_ HI.out.2.1 hp1 hp2 HI.out.2.2.1 HI.out.2.2.2 hq HRN.out HTT.out c t hl hc hm
          unfold KOk
          intros
          rename_i w' h
          obtain ⟨p2, k2, ts3, rest3, hpp, hps, hx3, hl3, hr3⟩ := h
          have HX3 := Aside0.mk (And.intro hx3 (And.intro hl3 hr3))
          clear hx3 hl3 hr3
          refine hHH _ _ ?_
          go_roundg (a.size - p2)
          case measure => have := HI.out.1; omega
          case rel => exact ⟨p2, k2, ts3, rest3, by omega, hps, ⟨rfl, HX3.out.1, HX3.out.2.1, HX3.out.2.2⟩⟩
        · refine arm_1 K w0 g a p0 R ts2 rest2 p k0 wr _ ?_ HI.out.2.1 hp1 hp2 HI.out.2.2.1 HI.out.2.2.2 hq HRN.out HTT.out c t hl hc hm
          unfold KOk
          intros
          rename_i w' h
          obtain ⟨p2, k2, ts3, rest3, hpp, hps, hx3, hl3, hr3⟩ := h
          have HX3 := Aside0.mk (And.intro hx3 (And.intro hl3 hr3))
          clear hx3 hl3 hr3
          refine hHH _ _ ?_
          go_roundg (a.size - p2)
          case measure => have := HI.out.1; omega
          case rel => exact ⟨p2, k2, ts3, rest3, by omega, hps, ⟨rfl, HX3.out.1, HX3.out.2.1, HX3.out.2.2⟩⟩
        · refine arm_2 K w0 g a p0 R ts2 rest2 p k0 wr _ ?_ HI.out.2.1 hp1 hp2 HI.out.2.2.1 HI.out.2.2.2 hq HRN.out HTT.out c t hl hc hm
          unfold KOk
          intros
          rename_i w' h
          obtain ⟨p2, k2, ts3, rest3, hpp, hps, hx3, hl3, hr3⟩ := h
          have HX3 := Aside0.mk (And.intro hx3 (And.intro hl3 hr3))
          clear hx3 hl3 hr3
          refine hHH _ _ ?_
          go_roundg (a.size - p2)
          case measure => have := HI.out.1; omega
          case rel => exact ⟨p2, k2, ts3, rest3, by omega, hps, ⟨rfl, HX3.out.1, HX3.out.2.1, HX3.out.2.2⟩⟩
        · refine arm_3 K w0 g a p0 R ts2 rest2 p k0 wr _ ?_ HI.out.2.1 hp1 hp2 HI.out.2.2.1 HI.out.2.2.2 hq HRN.out HTT.out c t hl hc hm
          unfold KOk
          intros
          rename_i w' h
          obtain ⟨p2, k2, ts3, rest3, hpp, hps, hx3, hl3, hr3⟩ := h
          have HX3 := Aside0.mk (And.intro hx3 (And.intro hl3 hr3))
          clear hx3 hl3 hr3
          refine hHH _ _ ?_
          go_roundg (a.size - p2)
          case measure => have := HI.out.1; omega
          case rel => exact ⟨p2, k2, ts3, rest3, by omega, hps, ⟨rfl, HX3.out.1, HX3.out.2.1, HX3.out.2.2⟩⟩
        · refine arm_4 K w0 g a p0 R ts2 rest2 p k0 wr _ ?_ HI.out.2.1 hp1 hp2 HI.out.2.2.1 HI.out.2.2.2 hq HRN.out HTT.out c t hl hc hm
          unfold KOk
          intros
          rename_i w' h
          obtain ⟨p2, k2, ts3, rest3, hpp, hps, hx3, hl3, hr3⟩ := h
          have HX3 := Aside0.mk (And.intro hx3 (And.intro hl3 hr3))
          clear hx3 hl3 hr3
          refine hHH _ _ ?_
          go_roundg (a.size - p2)
          case measure => have := HI.out.1; omega
          case rel => exact ⟨p2, k2, ts3, rest3, by omega, hps, ⟨rfl, HX3.out.1, HX3.out.2.1, HX3.out.2.2⟩⟩
        · refine arm_5 K w0 g a p0 R ts2 rest2 p k0 wr _ ?_ HI.out.2.1 hp1 hp2 HI.out.2.2.1 HI.out.2.2.2 hq HRN.out HTT.out c t hl hc hm
          unfold KOk
          intros
          rename_i w' h
          obtain ⟨p2, k2, ts3, rest3, hpp, hps, hx3, hl3, hr3⟩ := h
          have HX3 := Aside0.mk (And.intro hx3 (And.intro hl3 hr3))
          clear hx3 hl3 hr3
          refine hHH _ _ ?_
          go_roundg (a.size - p2)
          case measure => have := HI.out.1; omega
          case rel => exact ⟨p2, k2, ts3, rest3, by omega, hps, ⟨rfl, HX3.out.1, HX3.out.2.1, HX3.out.2.2⟩⟩
        · refine arm_6 K w0 g a p0 R ts2 rest2 p k0 wr _ ?_ HI.out.2.1 hp1 hp2 HI.out.2.2.1 HI.out.2.2.2 hq HRN.out HTT.out c t hl hc hm
          unfold KOk
          intros
          rename_i w' h
          obtain ⟨p2, k2, ts3, rest3, hpp, hps, hx3, hl3, hr3⟩ := h
          have HX3 := Aside0.mk (And.intro hx3 (And.intro hl3 hr3))
          clear hx3 hl3 hr3
          refine hHH _ _ ?_
          go_roundg (a.size - p2)
          case measure => have := HI.out.1; omega
          case rel => exact ⟨p2, k2, ts3, rest3, by omega, hps, ⟨rfl, HX3.out.1, HX3.out.2.1, HX3.out.2.2⟩⟩
        · refine arm_7 K w0 g a p0 R ts2 rest2 p k0 wr _ ?_ HI.out.2.1 hp1 hp2 HI.out.2.2.1 HI.out.2.2.2 hq HRN.out HTT.out c t hl hc hm
          unfold KOk
          intros
          rename_i w' h
          obtain ⟨p2, k2, ts3, rest3, hpp, hps, hx3, hl3, hr3⟩ := h
          have HX3 := Aside0.mk (And.intro hx3 (And.intro hl3 hr3))
          clear hx3 hl3 hr3
          refine hHH _ _ ?_
          go_roundg (a.size - p2)
          case measure => have := HI.out.1; omega
          case rel => exact ⟨p2, k2, ts3, rest3, by omega, hps, ⟨rfl, HX3.out.1, HX3.out.2.1, HX3.out.2.2⟩⟩
        · refine arm_8 K w0 g a p0 R ts2 rest2 p k0 wr _ ?_ HI.out.2.1 hp1 hp2 HI.out.2.2.1 HI.out.2.2.2 hq HRN.out HTT.out c t hl hc hm
          unfold KOk
          intros
          rename_i w' h
          obtain ⟨p2, k2, ts3, rest3, hpp, hps, hx3, hl3, hr3⟩ := h
          have HX3 := Aside0.mk (And.intro hx3 (And.intro hl3 hr3))
          clear hx3 hl3 hr3
          refine hHH _ _ ?_
          go_roundg (a.size - p2)
          case measure => have := HI.out.1; omega
          case rel => exact ⟨p2, k2, ts3, rest3, by omega, hps, ⟨rfl, HX3.out.1, HX3.out.2.1, HX3.out.2.2⟩⟩
        · refine arm_9 K w0 g a p0 R ts2 rest2 p k0 wr _ ?_ HI.out.2.1 hp1 hp2 HI.out.2.2.1 HI.out.2.2.2 hq HRN.out HTT.out c t hl hc hm
          unfold KOk
          intros
          rename_i w' h
          obtain ⟨p2, k2, ts3, rest3, hpp, hps, hx3, hl3, hr3⟩ := h
          have HX3 := Aside0.mk (And.intro hx3 (And.intro hl3 hr3))
          clear hx3 hl3 hr3
          refine hHH _ _ ?_
          go_roundg (a.size - p2)
          case measure => have := HI.out.1; omega
          case rel => exact ⟨p2, k2, ts3, rest3, by omega, hps, ⟨rfl, HX3.out.1, HX3.out.2.1, HX3.out.2.2⟩⟩
        · refine arm_10 K w0 g a p0 R ts2 rest2 p k0 wr _ ?_ HI.out.2.1 hp1 hp2 HI.out.2.2.1 HI.out.2.2.2 hq HRN.out HTT.out c t hl hc hm
          unfold KOk
          intros
          rename_i w' h
          obtain ⟨p2, k2, ts3, rest3, hpp, hps, hx3, hl3, hr3⟩ := h
          have HX3 := Aside0.mk (And.intro hx3 (And.intro hl3 hr3))
          clear hx3 hl3 hr3
          refine hHH _ _ ?_
          go_roundg (a.size - p2)
          case measure => have := HI.out.1; omega
          case rel => exact ⟨p2, k2, ts3, rest3, by omega, hps, ⟨rfl, HX3.out.1, HX3.out.2.1, HX3.out.2.2⟩⟩
        · refine arm_11 K w0 g a p0 R ts2 rest2 p k0 wr _ ?_ HI.out.2.1 hp1 hp2 HI.out.2.2.1 HI.out.2.2.2 hq HRN.out HTT.out c t hl hc hm
          unfold KOk
          intros
          rename_i w' h
          obtain ⟨p2, k2, ts3, rest3, hpp, hps, hx3, hl3, hr3⟩ := h
          have HX3 := Aside0.mk (And.intro hx3 (And.intro hl3 hr3))
          clear hx3 hl3 hr3
          refine hHH _ _ ?_
          go_roundg (a.size - p2)
          case measure => have := HI.out.1; omega
          case rel => exact ⟨p2, k2, ts3, rest3, by omega, hps, ⟨rfl, HX3.out.1, HX3.out.2.1, HX3.out.2.2⟩⟩
        · refine arm_12 K w0 g a p0 R ts2 rest2 p k0 wr _ ?_ HI.out.2.1 hp1 hp2 HI.out.2.2.1 HI.out.2.2.2 hq HRN.out HTT.out c t hl hc hm
          unfold KOk
          intros
          rename_i w' h
          obtain ⟨p2, k2, ts3, rest3, hpp, hps, hx3, hl3, hr3⟩ := h
          have HX3 := Aside0.mk (And.intro hx3 (And.intro hl3 hr3))
          clear hx3 hl3 hr3
          refine hHH _ _ ?_
          go_roundg (a.size - p2)
          case measure => have := HI.out.1; omega
          case rel => exact ⟨p2, k2, ts3, rest3, by omega, hps, ⟨rfl, HX3.out.1, HX3.out.2.1, HX3.out.2.2⟩⟩
        · refine arm_13 K w0 g a p0 R ts2 rest2 p k0 wr _ ?_ HI.out.2.1 hp1 hp2 HI.out.2.2.1 HI.out.2.2.2 hq HRN.out HTT.out c t hl hc hm
          unfold KOk
          intros
          rename_i w' h
          obtain ⟨p2, k2, ts3, rest3, hpp, hps, hx3, hl3, hr3⟩ := h
          have HX3 := Aside0.mk (And.intro hx3 (And.intro hl3 hr3))
          clear hx3 hl3 hr3
          refine hHH _ _ ?_
          go_roundg (a.size - p2)
          case measure => have := HI.out.1; omega
          case rel => exact ⟨p2, k2, ts3, rest3, by omega, hps, ⟨rfl, HX3.out.1, HX3.out.2.1, HX3.out.2.2⟩⟩
      · obtain ⟨nL, hlex⟩ := HI.out.2.2.1
        rw [hl] at hlex
        obtain ⟨o, ho1, _⟩ := lex_tok (decide_eq_false (by omega)) hlex
        rw [tok_hi (by omega)] at ho1
        cases ho1


end Go.Proofs.YthcafnmagidpiaaDoor.MFnVtTokens
