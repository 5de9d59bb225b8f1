/- Options with keys and values (at most 40, of at most 300 bytes each, no apostrophes, no '=' and ',' in keys) are written as a match rule: key, '=', the value between apostrophes, commas between; for other options nothing is said. -/
import Derived.Test.YtbemkokigpcmdaaMFnMtRulep
namespace Go.Proofs.Ytbemkokigpcmdaa.Pure
open Go Go.RowKit Go.Proofs.Ytbemkokigpcmdaa.MFnMtRule Go.Proofs.YtbemkokigpcmdaaW.PrintWords Go.Proofs.YtbemkokigpcmdaaW.PrintLast Go.Proofs.Ytbemkokigpcmdaa.Hlp Go.Proofs.Ytbemkokigpcmdaa.MFnMtRulep
set_option linter.unusedVariables false

theorem rd32 (l : List S32) (i : Nat) (h : i < l.length) : rd_T32 l (i : Int) = l[i] := by simp [rd_T32, List.getD, h]
def to32 (t : S28) : S32 := ⟨t.f0, t.f1⟩
theorem terms_loop (l : List S28) (h : Plain l) : ∀ (d i : Nat), d = l.length - i → i ≤ l.length →
    Ev (fun k => laws_mtTermsIn.l0 k ((l.take i).map to32) l (l.length : Int) (i : Int)) (l.map to32)
  | 0, i, hd, hi => Ev.step (f := fun _ => some (l.map to32)) (fun k => by simp only [laws_mtTermsIn.l0]; rw [if_neg (by omega), List.take_of_length_le (by omega)]) (Ev.now _)
  | d + 1, i, hd, hi => by
    have hin : i < l.length := by omega
    have h1 := h.1
    refine Ev.step (fun k => ?_) (terms_loop l h d (i + 1) (by omega) (by omega))
    simp only [laws_mtTermsIn.l0]
    rw [if_pos (by omega), if_pos (by omega), if_pos (by omega), rd28 l i hin, if_pos (by rw [List.length_map, List.length_take]; omega), up i (by omega), List.take_succ_eq_append_getElem hin, List.map_append]
    rfl
theorem rule_take (l : List S28) (i : Nat) (hi : i < l.length) : rule (l.take (i + 1)) = (if i = 0 then term l[i] else rule (l.take i) ++ [44] ++ term l[i]) := by
  unfold rule
  rw [List.take_succ_eq_append_getElem hi, List.map_append]
  split
  · rename_i h
    subst h
    simp [Lib.join_one]
  · rename_i h
    exact join_snoc _ _ (fun e => by
      have : (l.take i).length = 0 := by rw [List.map_eq_nil_iff] at e; rw [e]; rfl
      rw [List.length_take] at this
      omega)
theorem spec_loop (l : List S28) (h : Plain l) : ∀ (d i : Nat) (s : ByteArray), d = l.length - i → i ≤ l.length → bl s = rule (l.take i) →
    ∃ r, Ev (fun k => spec_RuleText.l0 k s (l.map to32) (l.length : Int) (i : Int)) r ∧ bl r = rule l
  | 0, i, s, hd, hi, hs => ⟨s, Ev.step (f := fun _ => some s) (fun k => by simp only [spec_RuleText.l0]; rw [if_neg (by omega)]) (Ev.now _), by rw [hs, List.take_of_length_le (by omega)]⟩
  | d + 1, i, s, hd, hi, hs => by
    have hin : i < l.length := by omega
    have h1 := h.1
    have ho := h.2 l[i] (List.getElem_mem hin)
    have ha := ho.1.1
    have hb := ho.2.1
    have er : rd_T32 (l.map to32) (i : Int) = to32 l[i] := by rw [rd32 _ i (by simpa using hin)]; simp
    have ef : (to32 l[i]).f0 = l[i].f0 := rfl
    have eg : (to32 l[i]).f1 = l[i].f1 := rfl
    have s1 : (⟨#[61, 39]⟩ : ByteArray).size = 2 := rfl
    have s2 : (⟨#[39]⟩ : ByteArray).size = 1 := rfl
    have s3 : (⟨#[44]⟩ : ByteArray).size = 1 := rfl
    have hsz : s.size ≤ 24160 := by
      rw [← bl_len, hs]
      exact rule_len (l.take i) ⟨by rw [List.length_take]; omega, fun t ht => h.2 t (List.mem_of_mem_take ht)⟩
    by_cases h0 : i = 0
    · have hr0 : rule (l.take i) = [] := by rw [h0]; rfl
      obtain ⟨r, hr, hr2⟩ := spec_loop l h d (i + 1) (s ++ termB l[i]) (by omega) (by omega) (by rw [bl_append, bl_termB, hs, rule_take l i hin, if_pos h0, hr0]; rfl)
      refine ⟨r, Ev.step (fun k => ?_) hr, hr2⟩
      simp only [spec_RuleText.l0, er, ef, eg]
      rw [if_pos (by omega), if_pos (by omega), if_pos (by rw [List.length_map]; omega), if_neg (by omega), if_pos (by omega), if_pos (by rw [ByteArray.size_append, s1]; omega), if_pos (by rw [ByteArray.size_append, ByteArray.size_append, s1]; omega),
        if_pos (by simp only [ByteArray.size_append, s1, s2]; omega), up i (by omega)]
      rfl
    · obtain ⟨r, hr, hr2⟩ := spec_loop l h d (i + 1) ((s ++ (⟨#[44]⟩ : ByteArray)) ++ termB l[i]) (by omega) (by omega) (by rw [bl_append, bl_append, bl_termB, hs, rule_take l i hin, if_neg h0]; rfl)
      refine ⟨r, Ev.step (fun k => ?_) hr, hr2⟩
      simp only [spec_RuleText.l0, er, ef, eg]
      rw [if_pos (by omega), if_pos (by omega), if_pos (by rw [List.length_map]; omega), if_pos (by omega), if_pos (by omega), if_pos (by omega), if_pos (by rw [ByteArray.size_append, s1]; omega), if_pos (by rw [ByteArray.size_append, ByteArray.size_append, s1]; omega),
        if_pos (by simp only [ByteArray.size_append, s1, s2, s3]; omega), up i (by omega)]
      rfl
theorem FnMtRule (l : List S28) : ∃ k, laws_FnMtRule.f k l = some true := by
  suffices h : Ev (fun k => laws_FnMtRule.f k l) true from h.rounds
  unfold laws_FnMtRule.f
  obtain ⟨r1, h1, g1⟩ := fits l
  refine Ev.bind h1 ?_
  cases r1 with
  | false => exact Ev.congr (fun k => by rw [if_neg (by decide)]) (Ev.now _)
  | true =>
    obtain ⟨r2, h2, g2⟩ := plain l (g1 rfl)
    refine Ev.congr (fun k => by rw [if_pos rfl]) (Ev.bind h2 ?_)
    cases r2 with
    | false => exact Ev.congr (fun k => by rw [if_neg (by decide)]) (Ev.now _)
    | true =>
      have hp := g2 rfl
      obtain ⟨r, hr, hr2⟩ := spec_loop l hp l.length 0 ⟨#[]⟩ (by omega) (by omega) rfl
      have one : Plain [(⟨⟨#[97]⟩, ⟨#[98]⟩⟩ : S28)] := ⟨by decide, fun t ht => by
        rw [List.mem_singleton] at ht
        subst ht
        refine ⟨⟨by decide, fun j hj => ?_⟩, by decide, fun j hj => ?_⟩
        · have : j = 0 := by have : j < 1 := hj; omega
          subst this; decide
        · have : j = 0 := by have : j < 1 := hj; omega
          subst this; decide⟩
      refine Ev.congr (fun k => by rw [if_pos rfl]) (Ev.bind (impl_rule l hp) (Ev.bind (terms_loop l hp l.length 0 (by omega) (by omega)) (Ev.bind (r := true) (a := r) ?_ ?_)))
      · refine Ev.congr (fun k => ?_) hr
        unfold spec_RuleText.f
        rw [List.length_map]
        rfl
      · have e : (⟨(rule l).toArray⟩ : ByteArray).toList = r.toList := by rw [toList_bl, toList_bl, hr2]; simp [bl]
        refine Ev.congr (fun k => by rw [if_pos e]) (Ev.bind (impl_rule _ one) ?_)
        refine Ev.congr (fun k => ?_) (Ev.now true)
        rw [toList_bl]
        rfl

end Go.Proofs.Ytbemkokigpcmdaa.Pure
