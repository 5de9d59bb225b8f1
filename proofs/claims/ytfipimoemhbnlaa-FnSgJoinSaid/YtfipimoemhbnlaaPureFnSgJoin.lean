/- A signature with a text behind it (both of at most 4096 bytes) is taken by ParseSignature just if the text is and both have at most 255 bytes together; of texts with "()" or "{v", or crossed brackets, nothing is said. -/
import Derived.Test.YtfipimoemhbnlaaMFnSgJoiny
import Derived.Test.YtfipimoemhbnlaaMFnSgJoinp
import Derived.Test.YtfipimoemhbnlaaMFnSgJoinl
namespace Go.Proofs.Ytfipimoemhbnlaa.Pure
open Go Go.RowKit Go.Proofs.Ytfipimoemhbnlaa.MFnSgJoin Go.Proofs.YtfipimoemhbnlaaW.PrintWords Go.Proofs.YtfipimoemhbnlaaW.PrintLast Go.Proofs.Ytfipimoemhbnlaa.Hlp Go.Proofs.Ytfipimoemhbnlaa.SgT Go.Proofs.Ytfipimoemhbnlaa.MFnSgJoini Go.Proofs.Ytfipimoemhbnlaa.MFnSgJoint Go.Proofs.Ytfipimoemhbnlaa.MFnSgJoinp Go.Proofs.Ytfipimoemhbnlaa.MFnSgJoinl Go.Proofs.Ytfipimoemhbnlaa.MFnSgJoiny
set_option linter.unusedVariables false

/-- What ParseSignature says of a short text. -/
theorem said (s : ByteArray) (hs : s.size ≤ 1000000000) : ∃ e, Ev (fun k => dbus_ParseSignature.l k none s) e ∧ ∃ x b, Ev (fun k => impl_SgParse.f k s) (x, b) ∧ (b = true ↔ e = none ∧ s.size ≤ 255) := by
  obtain ⟨e, he, _⟩ := ends s.size s rfl hs
  refine ⟨e, he, ?_⟩
  by_cases h : s.size ≤ 255
  · cases e with
    | none => exact ⟨_, _, sg_ok h he, by simp [h]⟩
    | some v => exact ⟨_, _, sg_err h he, by simp⟩
  · exact ⟨_, _, sg_long (by omega), by simp; omega⟩
theorem wsum {a b : ByteArray} (h1 : a.size ≤ 4096) (h2 : b.size ≤ 4096) : wrap64 ((a.size : Int) + (b.size : Int)) = (a.size : Int) + (b.size : Int) := w64 (by omega) (by omega)

theorem FnSgJoin : laws_FnSgJoin.Pure := by
  intro a b ha hb
  apply Ev.rounds
  have fin : ∀ x1, x1 = true → Ev (fun k => laws_FnSgJoin.j1 k a b x1) true := by
    intro x1 h
    refine Ev.step (f := fun _ => some true) (fun k => ?_) (Ev.now _)
    simp only [laws_FnSgJoin.j1]; rw [if_pos h]
  have main : Ev (fun k => laws_FnSgJoin.j0 k a b false) true := by
    by_cases h1 : (a.size : Int) > 4096
    · refine Ev.step (fun k => ?_) (fin true rfl)
      simp only [laws_FnSgJoin.j0]; rw [if_neg (by decide), if_pos h1]
    by_cases h2 : (b.size : Int) > 4096
    · refine Ev.step (fun k => ?_) (fin true rfl)
      simp only [laws_FnSgJoin.j0]; rw [if_neg (by decide), if_neg h1, if_pos h2]
    obtain ⟨L, v, hL, hv⟩ := types a (by omega)
    have hV : Ev (fun k => spec_Valid.f k a) v := Ev.bind hL (Ev.now _)
    have st : ∀ k, laws_FnSgJoin.j0 (k + 1) a b false = (spec_Valid.f k a).bind fun t => (if t = true then ((laws_sgLeft.f k b).bind fun t => (laws_FnSgJoin.j1 k a b t)) else (laws_FnSgJoin.j1 k a b true)) := by
      intro k; simp only [laws_FnSgJoin.j0]; rw [if_neg (by decide), if_neg h1, if_neg h2]
    rcases hv with ⟨rfl, hsz, hgood, hflat⟩ | ⟨rfl, _⟩
    rotate_left
    · exact Ev.step st (Ev.bind hV (ev_ite_neg (by decide) (fun _ => rfl) (fin true rfl)))
    obtain ⟨lf, hlf, _⟩ := left_f b (by omega)
    refine Ev.step st (Ev.bind hV (ev_ite_pos rfl (fun _ => rfl) (Ev.bind hlf ?_)))
    cases lf with
    | true => exact fin true rfl
    | false =>
      have hA := sg_good hsz hgood hflat
      obtain ⟨e, he, x2, b2, hB, hB2⟩ := said b (by omega)
      have hsum : (a ++ b).size = a.size + b.size := ByteArray.size_append
      obtain ⟨e', he', x3, b3, hC, hC2⟩ := said (a ++ b) (by omega)
      have hee : e' = e := by
        have h3 := eat e b he (L.map bl) (a ++ b) hgood (by rw [bl_append, hflat]) (by omega)
        obtain ⟨K1, g1⟩ := he'
        obtain ⟨K2, g2⟩ := h3
        exact Option.some.inj ((g1 (max K1 K2) (Nat.le_max_left _ _)).symm.trans (g2 (max K1 K2) (Nat.le_max_right _ _)))
      subst hee
      refine Ev.step (f := fun k => (impl_SgParse.f k a).bind fun bt133 => ((impl_SgParse.f k b).bind fun bt135 => (if a.size + b.size ≤ 9223372036854775807 then ((impl_SgParse.f k (a ++ b)).bind fun bt137 => (if bt133.2 = true then (if bt135.2 = true then (some (bt137.2 == (decide ((wrap64 ((a.size : Int) + (b.size : Int))) ≤ 255)))) else (some (bt137.2 == false))) else (some false))) else (none)))) (fun k => ?_) ?_
      · simp only [laws_FnSgJoin.j1]; rw [if_neg (by decide)]
      · refine Ev.bind hA (Ev.bind hB (ev_ite_pos (by omega) (fun _ => rfl) (Ev.bind hC (ev_ite_pos rfl (fun _ => rfl) ?_))))
        cases b2 with
        | true =>
          have hb2 := hB2.mp rfl
          refine ev_ite_pos rfl (fun _ => rfl) ?_
          have : (b3 == (decide ((wrap64 ((a.size : Int) + (b.size : Int))) ≤ 255))) = true := by
            rw [wsum (by omega) (by omega), beq_iff_eq, Bool.eq_iff_iff, hC2, decide_eq_true_iff, hsum]
            exact ⟨fun h => by omega, fun h => ⟨hb2.1, by omega⟩⟩
          simp only [this]
          exact Ev.now _
        | false =>
          refine ev_ite_neg (show ¬ (false = true) by decide) (fun _ => rfl) ?_
          have : (b3 == false) = true := by
            rw [beq_iff_eq, Bool.eq_false_iff]
            intro h
            have h5 := hC2.mp h
            have := hB2.mpr ⟨h5.1, by omega⟩
            cases this
          simp only [this]
          exact Ev.now _
  have j0t : Ev (fun k => laws_FnSgJoin.j0 k a b true) true := by
    refine Ev.step (f := fun _ => some true) (fun k => ?_) (Ev.now _)
    simp only [laws_FnSgJoin.j0]; exact if_pos trivial
  unfold laws_FnSgJoin.f
  by_cases h1 : (a.size : Int) > 2147483647
  · exact ev_ite_pos h1 (fun _ => rfl) j0t
  · refine ev_ite_neg h1 (fun _ => rfl) ?_
    by_cases h2 : (b.size : Int) > 2147483647
    · rw [decide_eq_true h2]; exact j0t
    · rw [decide_eq_false h2]; exact main

end Go.Proofs.Ytfipimoemhbnlaa.Pure
