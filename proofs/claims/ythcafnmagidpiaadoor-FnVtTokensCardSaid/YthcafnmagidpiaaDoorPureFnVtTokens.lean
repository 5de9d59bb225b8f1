/- The specification's tokens are the lexer's. -/
import Derived.Test.YthcafnmagidpiaaDoorMFnVtTokensx19
import Derived.Test.YthcafnmagidpiaaDoorMFnVtTokensz
namespace Go.Proofs.YthcafnmagidpiaaDoor.Pure
open Go Go.RowKit Go.Proofs.YthcafnmagidpiaaDoor.MFnVtTokens Go.Proofs.YthcafnmagidpiaaDoorW.PrintWords Go.Proofs.YthcafnmagidpiaaDoorW.PrintLast Go.Proofs.YthcafnmagidpiaaDoor.Hlp Go.Proofs.YthcafnmagidpiaaDoor.MFnVtTokensr Go.Proofs.YthcafnmagidpiaaDoor.MFnVtTokensz
set_option linter.unusedVariables false

theorem law_l {ys : List S26} {xs : List S48} (h : Same ys xs) (hl : ys.length ≤ 10000) : ∀ (d i : Nat), i + d = ys.length → Ev (fun k => laws_FnVtTokens.l0 k (kinds xs) (texts xs) ys (ys.length : Int) (i : Int)) true := by
  obtain ⟨h1, h2, h3⟩ := Same.all h
  intro d
  induction d with
  | zero =>
    intro i hd
    refine Ev.step (f := fun _ => some true) (fun k => ?_) (Ev.now _)
    simp only [laws_FnVtTokens.l0]
    rw [if_neg (by omega)]
  | succ d ih =>
    intro i hd
    have hi : i < ys.length := by omega
    have hi2 : i < xs.length := by omega
    obtain ⟨e1, e2, e3, e4⟩ := h3 i hi hi2
    have g1 : rd_T26 ys (i : Int) = ys[i] := by
      unfold rd_T26
      rw [Int.toNat_natCast, List.getD_eq_getElem?_getD, List.getElem?_eq_getElem hi]
      rfl
    have g2 : rd (kinds xs) (i : Int) = xs[i].f0 := by
      unfold rd kinds
      rw [Int.toNat_natCast, List.getD_eq_getElem?_getD, List.getElem?_map, List.getElem?_eq_getElem hi2]
      rfl
    have g3 : rdOf ByteArray.empty (texts xs) (i : Int) = xs[i].f1 := by
      unfold rdOf texts
      rw [Int.toNat_natCast, List.getD_eq_getElem?_getD, List.getElem?_map, List.getElem?_eq_getElem hi2]
      rfl
    have l1 : (kinds xs).length = xs.length := List.length_map ..
    have l2 : (texts xs).length = xs.length := List.length_map ..
    refine Ev.step (fun k => ?_) (ih (i + 1) (by omega))
    simp only [laws_FnVtTokens.l0]
    rw [if_pos (by omega), if_pos (by omega), if_pos (by omega), if_pos (by omega), g1, g2, if_pos e1.symm, w64 (by omega) (by omega)]
    by_cases h5 : ys[i].f0 = 1
    · rw [if_pos h5]; rfl
    · rw [if_neg h5, if_pos (by omega), g3, if_pos (by rw [toList_bl, toList_bl, e4 (by rw [← e1]; exact h5)])]
      rfl
theorem FnVtTokens : laws_FnVtTokens.Pure := by
  intro a0 _
  refine Ev.rounds (r := true) ?_
  by_cases h1 : (a0.size : Int) > 2147483647
  · exact ev_ite_pos h1 (fun _ => rfl) (Ev.now _)
  refine ev_ite_neg h1 (fun _ => rfl) ?_
  by_cases h2 : (a0.size : Int) > 4096
  · exact ev_ite_pos h2 (fun _ => rfl) (Ev.now _)
  refine ev_ite_neg h2 (fun _ => rfl) ?_
  obtain ⟨⟨ys, b⟩, ho, hs⟩ := tokens_f a0 (by omega)
  refine Ev.bind ho ?_
  have jt : Ev (fun k => laws_FnVtTokens.j0 k a0 ys true) true := Ev.step (f := fun _ => some true) (fun k => by simp only [laws_FnVtTokens.j0]; rw [if_pos trivial]) (Ev.now _)
  cases b with
  | false => exact ev_ite_neg (by simp) (fun _ => rfl) jt
  | true =>
    obtain ⟨ys', rest, e1, e2, e3, e4, e5⟩ := hs rfl
    rw [List.nil_append] at e1
    subst e1
    simp only at e3 e4 e5 ⊢
    rw [bl_len] at e5
    obtain ⟨s1, s2, s3⟩ := Same.all e3
    have jf : Ev (fun k => laws_FnVtTokens.j0 k a0 ys false) true := by
      have hv := vt_f a0 (by omega) e2 s2 (by omega)
      have l1 : (kinds rest).length = rest.length := List.length_map ..
      have l2 : (texts rest).length = rest.length := List.length_map ..
      refine Ev.step (f := fun k => (impl_VtTokens.f k a0).bind fun z => (if (z.1.length : Int) = (ys.length : Int) then (laws_FnVtTokens.j1 k ys z.1 z.2 ((z.2.length : Int) != (ys.length : Int))) else (laws_FnVtTokens.j1 k ys z.1 z.2 true))) (fun k => by simp only [laws_FnVtTokens.j0]; rw [if_neg (by simp)]) (Ev.bind hv ?_)
      have hne : (((kinds rest, texts rest).2.length : Int) != (ys.length : Int)) = false := by simp only [bne_eq_false_iff_eq]; rw [l2, s1]
      refine ev_ite_pos (show ((kinds rest).length : Int) = (ys.length : Int) by rw [l1, s1]) (fun _ => rfl) ?_
      rw [hne]
      refine Ev.step (f := fun k => laws_FnVtTokens.l0 k (kinds rest) (texts rest) ys (ys.length : Int) 0) (fun k => by simp only [laws_FnVtTokens.j1]; rw [if_neg (by simp)]) ?_
      exact law_l e3 (by omega) ys.length 0 (by omega)
    have jb : ∀ b, Ev (fun k => laws_FnVtTokens.j0 k a0 ys b) true := fun b => by cases b; exact jf; exact jt
    refine ev_ite_pos trivial (fun _ => rfl) ?_
    by_cases h3 : (ys.length : Int) > 1
    · have w1 : wrap64 ((ys.length : Int) - 2) = ((ys.length : Int) - 2) := w64 (by omega) (by omega)
      have w2 : wrap64 ((a0.size : Int) - 1) = ((a0.size : Int) - 1) := w64 (by omega) (by omega)
      refine ev_ite_pos h3 (fun _ => rfl) (ev_ite_pos (by rw [w1]; omega) (fun _ => rfl) (ev_ite_pos (by rw [w1]; omega) (fun _ => rfl) ?_))
      by_cases h4 : (rd_T26 ys (wrap64 ((ys.length : Int) - 2))).f0 = 13
      · exact ev_ite_pos h4 (fun _ => rfl) (ev_ite_pos (by rw [w2]; omega) (fun _ => rfl) (ev_ite_pos (by rw [w2]; omega) (fun _ => rfl) (jb _)))
      · exact ev_ite_neg h4 (fun _ => rfl) jf
    · exact ev_ite_neg h3 (fun _ => rfl) jf
end Go.Proofs.YthcafnmagidpiaaDoor.Pure
