/- What is left out: the look over a text comes to an end, and where it lets a text in, neither "()" nor "{v" is in it. -/
import Derived.Test.YtfipimoemhbnlaaMFnSgEntryt
namespace Go.Proofs.Ytfipimoemhbnlaa.MFnSgEntryl
open Go Go.RowKit Go.Proofs.Ytfipimoemhbnlaa.MFnSgEntry Go.Proofs.YtfipimoemhbnlaaW.PrintWords Go.Proofs.YtfipimoemhbnlaaW.PrintLast Go.Proofs.Ytfipimoemhbnlaa.Hlp Go.Proofs.Ytfipimoemhbnlaa.SgT Go.Proofs.Ytfipimoemhbnlaa.MFnSgEntryi Go.Proofs.Ytfipimoemhbnlaa.MFnSgEntryt
set_option linter.unusedVariables false

/-- No such pair begins at a place. -/
def PB (s : ByteArray) (j : Nat) : Prop := ∀ q, (bl s).drop j ≠ 40 :: 41 :: q ∧ (bl s).drop j ≠ 123 :: 118 :: q
theorem NP_of {s : ByteArray} (h : ∀ j, PB s j) : NP (bl s) := by
  intro p q
  refine ⟨fun e => (h p.length q).1 ?_, fun e => (h p.length q).2 ?_⟩
  · rw [e]; simp
  · rw [e]; simp
theorem two_bytes (s : ByteArray) (i : Nat) (a b : UInt8) : (s.extract i (i + 2)).toList = [a, b] ↔ ∃ q, (bl s).drop i = a :: b :: q := by
  rw [toList_bl, bl_extract, Nat.add_sub_cancel_left]
  constructor
  · intro h
    refine ⟨((bl s).drop i).drop 2, ?_⟩
    rw [← List.take_append_drop 2 ((bl s).drop i), h]
    simp
  · rintro ⟨q, h⟩; rw [h]; rfl
theorem wi (i : Nat) (h : i ≤ 1000000000) : wrap64 ((i : Int) + 1) = ((i + 1 : Nat) : Int) := w64 (by omega) (by omega)
theorem wi2 (i : Nat) (h : i ≤ 1000000000) : wrap64 ((i : Int) + 2) = ((i + 2 : Nat) : Int) := w64 (by omega) (by omega)
theorem wl (n : Nat) (h : n ≤ 1000000000) (h0 : n ≠ 0) : wrap64 ((n : Int) - 1) = ((n - 1 : Nat) : Int) := by rw [w64 (by omega) (by omega)]; omega

theorem left (s : ByteArray) (hs : s.size ≤ 1000000000) (d : Nat) : ∀ (i : Nat) (st : List Int), s.size - i = d → i ≤ s.size → st.length ≤ i → ∃ b, Ev (fun k => laws_sgLeft.l0 k s st (i : Int)) b ∧ (b = false → ∀ j, i ≤ j → PB s j) := by
  induction d using Nat.strongRecOn with
  | _ d ih =>
  intro i st hd hi hst
  cases hc : (bl s).drop i with
  | nil =>
    have hnl : ¬ i < s.size := by
      have := congrArg List.length hc
      rw [List.length_drop, bl_len] at this
      simp at this; omega
    refine ⟨false, Ev.step (f := fun _ => some false) (fun k => ?_) (Ev.now _), fun _ j hj q => ?_⟩
    · simp only [laws_sgLeft.l0]; rw [if_neg (by omega)]
    · have : (bl s).drop j = [] := by rw [List.drop_eq_nil_iff, bl_len]; omega
      rw [this]; exact ⟨by simp, by simp⟩
  | cons c z =>
    have hlt := drop_lt hc
    have hb := bt_drop hc
    have next : ∀ st' : List Int, st'.length ≤ i + 1 → PB s i → ∃ b, Ev (fun k => laws_sgLeft.l0 k s st' ((i + 1 : Nat) : Int)) b ∧ (b = false → ∀ j, i ≤ j → PB s j) := by
      intro st' h1 h2
      obtain ⟨b, hb, hf⟩ := ih (s.size - (i + 1)) (by omega) (i + 1) st' rfl (by omega) h1
      refine ⟨b, hb, fun h j hj => ?_⟩
      by_cases e : j = i
      · rw [e]; exact h2
      · exact hf h j (by omega)
    have e1 : ∀ k, laws_sgLeft.l0 (k + 1) s st (i : Int) = laws_sgLeft.j1 k s st (i : Int) (bt s i) (c == 40 || c == 123) := by
      intro k
      simp only [laws_sgLeft.l0]
      rw [if_pos (by omega), if_pos (by omega), hb]
      by_cases h40 : c = 40
      · subst h40; rw [if_pos (by rfl)]; rfl
      · rw [if_neg (show ¬ (c.toNat : Int) = 40 from fun q => h40 ((num_eq 40).mp q))]
        congr 1
        rw [beq_eq_false_iff_ne.mpr h40, Bool.false_or, Bool.eq_iff_iff, beq_iff_eq, beq_iff_eq]
        exact num_eq 123
    cases ho : (c == 40 || c == 123) with
    | true =>
      rw [ho] at e1
      by_cases hl : i + 1 < s.size
      · have e2 : ∀ k, laws_sgLeft.j1 (k + 1) s st (i : Int) (bt s i) true = if (s.extract i (i + 2)).toList = ([40, 41] : List UInt8) then some true else if (s.extract i (i + 2)).toList = ([123, 118] : List UInt8) then some true else laws_sgLeft.l0 k s (st ++ [bt s i]) ((i + 1 : Nat) : Int) := by
          intro k
          simp only [laws_sgLeft.j1]
          rw [if_pos trivial, if_pos (by omega), if_pos (by omega), if_pos (by omega), Option.bind_some, wi i (by omega), wi2 i (by omega), if_pos (by omega), if_pos (by omega), if_pos (by omega), Int.toNat_natCast, Int.toNat_natCast]
        by_cases p1 : (s.extract i (i + 2)).toList = ([40, 41] : List UInt8)
        · exact ⟨true, Ev.step e1 (Ev.step e2 (ev_ite_pos p1 (fun _ => rfl) (Ev.now _))), fun h => by (cases h)⟩
        by_cases p2 : (s.extract i (i + 2)).toList = ([123, 118] : List UInt8)
        · exact ⟨true, Ev.step e1 (Ev.step e2 (ev_ite_neg p1 (fun _ => rfl) (ev_ite_pos p2 (fun _ => rfl) (Ev.now _)))), fun h => by (cases h)⟩
        obtain ⟨b, hb2, hf⟩ := next (st ++ [bt s i]) (by simp; omega) (fun q => ⟨fun e => p1 ((two_bytes s i 40 41).mpr ⟨q, e⟩), fun e => p2 ((two_bytes s i 123 118).mpr ⟨q, e⟩)⟩)
        exact ⟨b, Ev.step e1 (Ev.step e2 (ev_ite_neg p1 (fun _ => rfl) (ev_ite_neg p2 (fun _ => rfl) hb2))), hf⟩
      · have e2 : ∀ k, laws_sgLeft.j1 (k + 1) s st (i : Int) (bt s i) true = laws_sgLeft.l0 k s (st ++ [bt s i]) ((i + 1 : Nat) : Int) := by
          intro k
          simp only [laws_sgLeft.j1]
          rw [if_pos trivial, if_pos (by omega), if_pos (by omega), if_pos (by omega), Option.bind_some, wi i (by omega), if_neg (by omega)]
        have hz : z = [] := by
          have := congrArg List.length hc
          rw [List.length_drop, bl_len] at this
          simp only [List.length_cons] at this
          exact List.eq_nil_of_length_eq_zero (by omega)
        obtain ⟨b, hb2, hf⟩ := next (st ++ [bt s i]) (by simp; omega) (fun q => by rw [hc, hz]; exact ⟨by simp, by simp⟩)
        exact ⟨b, Ev.step e1 (Ev.step e2 hb2), hf⟩
    | false =>
      rw [ho] at e1
      have hne : c ≠ 40 ∧ c ≠ 123 := by simpa using ho
      have hpb : PB s i := fun q => by
        rw [hc]
        exact ⟨fun e => hne.1 (List.cons.inj e).1, fun e => hne.2 (List.cons.inj e).1⟩
      have e2 : ∀ k, laws_sgLeft.j1 (k + 1) s st (i : Int) (bt s i) false = laws_sgLeft.j2 k s st (i : Int) (c == 41 || c == 125) := by
        intro k
        simp only [laws_sgLeft.j1]
        rw [if_neg (by decide), hb]
        by_cases h41 : c = 41
        · subst h41; rw [if_pos (by rfl)]; rfl
        · rw [if_neg (show ¬ (c.toNat : Int) = 41 from fun q => h41 ((num_eq 41).mp q))]
          congr 1
          rw [beq_eq_false_iff_ne.mpr h41, Bool.false_or, Bool.eq_iff_iff, beq_iff_eq, beq_iff_eq]
          exact num_eq 125
      cases hcl : (c == 41 || c == 125) with
      | false =>
        rw [hcl] at e2
        obtain ⟨b, hb2, hf⟩ := next st (by omega) hpb
        refine ⟨b, Ev.step e1 (Ev.step e2 (Ev.step (fun k => ?_) hb2)), hf⟩
        simp only [laws_sgLeft.j2]; rw [if_neg (by decide), wi i (by omega)]
      | true =>
        rw [hcl] at e2
        by_cases h0 : st.length = 0
        · obtain ⟨b, hb2, hf⟩ := next st (by omega) hpb
          refine ⟨b, Ev.step e1 (Ev.step e2 (Ev.step (fun k => ?_) hb2)), hf⟩
          simp only [laws_sgLeft.j2]; rw [if_pos trivial, if_pos (by omega), wi i (by omega)]
        · have e3 : ∀ k, laws_sgLeft.j2 (k + 1) s st (i : Int) true = if ((rd st ((st.length - 1 : Nat) : Int) == 40) != (bt s i == 41)) = true then some true else laws_sgLeft.l0 k s (st.take (st.length - 1)) ((i + 1 : Nat) : Int) := by
            intro k
            simp only [laws_sgLeft.j2]
            rw [if_pos trivial, if_neg (by omega), wl st.length (by omega) h0, if_pos (by omega), if_pos (by omega), if_pos (by omega), if_pos (by omega), wi i (by omega), Int.toNat_natCast]
            by_cases hm : ((rd st ((st.length - 1 : Nat) : Int) == 40) != (bt s i == 41)) = true
            · rw [if_pos hm, if_pos hm]
            · rw [if_neg hm, if_neg hm, if_pos (by omega)]
          by_cases hm : ((rd st ((st.length - 1 : Nat) : Int) == 40) != (bt s i == 41)) = true
          · exact ⟨true, Ev.step e1 (Ev.step e2 (Ev.step e3 (ev_ite_pos hm (fun _ => rfl) (Ev.now _)))), fun h => by (cases h)⟩
          · obtain ⟨b, hb2, hf⟩ := next (st.take (st.length - 1)) (by rw [List.length_take]; omega) hpb
            exact ⟨b, Ev.step e1 (Ev.step e2 (Ev.step e3 (ev_ite_neg hm (fun _ => rfl) hb2))), hf⟩
theorem left_f (s : ByteArray) (hs : s.size ≤ 1000000000) : ∃ b, Ev (fun k => laws_sgLeft.f k s) b ∧ (b = false → NP (bl s)) := by
  obtain ⟨b, hb, hf⟩ := left s hs s.size 0 [] (by omega) (by omega) (by simp)
  exact ⟨b, hb, fun h => NP_of (fun j => hf h j (Nat.zero_le _))⟩
end Go.Proofs.Ytfipimoemhbnlaa.MFnSgEntryl
