/- What ParseSignature says: the texts of complete types, of at most 255 bytes, are taken; others, without "()" and "{v", are not. -/
import Derived.Test.YtfipimoemhbnlaaMFnSgReplacet
namespace Go.Proofs.Ytfipimoemhbnlaa.MFnSgReplacep
open Go Go.RowKit Go.Proofs.Ytfipimoemhbnlaa.MFnSgReplace Go.Proofs.YtfipimoemhbnlaaW.PrintWords Go.Proofs.YtfipimoemhbnlaaW.PrintLast Go.Proofs.Ytfipimoemhbnlaa.Hlp Go.Proofs.Ytfipimoemhbnlaa.SgT Go.Proofs.Ytfipimoemhbnlaa.MFnSgReplacei Go.Proofs.Ytfipimoemhbnlaa.MFnSgReplacet
set_option linter.unusedVariables false

theorem p_nil {s : ByteArray} (h : s.size = 0) : Ev (fun k => dbus_ParseSignature.l k none s) none := by
  refine Ev.step (f := fun _ => some none) (fun k => ?_) (Ev.now _)
  simp only [dbus_ParseSignature.l]; rw [if_neg (by decide), if_pos h]
theorem p_more {s : ByteArray} (h : ¬ s.size = 0) (k : Nat) : dbus_ParseSignature.l (k + 1) none s = (dbus_validSingle.g k s 0 0 0).bind fun x => dbus_ParseSignature.l k x.1 x.2 := by
  simp only [dbus_ParseSignature.l]; rw [if_neg (by decide), if_neg h]
/-- Complete types ahead are gone through. -/
theorem eat (e : Option (TypeId × Value)) (s2 : ByteArray) (h2 : Ev (fun k => dbus_ParseSignature.l k none s2) e) : ∀ (xs : List (List UInt8)) (s : ByteArray), (∀ x ∈ xs, T 32 32 32 x) → bl s = xs.flatten ++ bl s2 → s.size ≤ 1000000000 →
    Ev (fun k => dbus_ParseSignature.l k none s) e
  | [], s, _, hb, _ => by rw [bl_ext (s := s) (t := s2) (by rw [hb]; rfl)]; exact h2
  | x :: xs, s, hx, hb, hs => by
    have tx := hx x List.mem_cons_self
    have hl := tx.len
    have h0 : ¬ s.size = 0 := by rw [← bl_len, hb, List.flatten_cons, List.length_append, List.length_append]; omega
    refine Ev.step (fun k => p_more h0 k) (Ev.bind (takes tx s 0 0 0 (xs.flatten ++ bl s2) (by omega) (by omega) (by omega) (by omega) (by omega) (by omega) (by rw [hb]; simp) hs) ?_)
    refine eat e s2 h2 xs (s.extract x.length s.size) (fun y hy => hx y (List.mem_cons_of_mem _ hy)) ?_ (by rw [size_drop]; omega)
    rw [bl_drop, hb]; simp
/-- It comes to an end. -/
theorem ends (m : Nat) : ∀ s : ByteArray, s.size = m → s.size ≤ 1000000000 → ∃ e, Ev (fun k => dbus_ParseSignature.l k none s) e ∧ (e = none → NP (bl s) → ∃ xs : List (List UInt8), (∀ x ∈ xs, T 32 32 32 x) ∧ bl s = xs.flatten) := by
  induction m using Nat.strongRecOn with
  | _ m ih =>
  intro s hm hs
  by_cases h0 : s.size = 0
  · exact ⟨none, p_nil h0, fun _ _ => ⟨[], fun x h => by (cases h), List.eq_nil_of_length_eq_zero h0⟩⟩
  · obtain ⟨e, rem, he, hr⟩ := tot s.size s (Nat.le_refl _) hs 0 0 0 (by omega) (by omega) (by omega) (by omega) (by omega) (by omega)
    cases e with
    | some v =>
      refine ⟨some v, Ev.step (fun k => p_more h0 k) (Ev.bind he (Ev.step (f := fun _ => some (some v)) (fun k => ?_) (Ev.now _))), fun h => by (cases h)⟩
      simp only [dbus_ParseSignature.l]; exact if_pos rfl
    | none =>
      have hlt := hr.1 rfl
      obtain ⟨e2, he2, h3⟩ := ih rem.size (by omega) rem rfl (by omega)
      refine ⟨e2, Ev.step (fun k => p_more h0 k) (Ev.bind he he2), fun hn hp => ?_⟩
      obtain ⟨x, hx, hb⟩ := hr.2 rfl hp
      rw [hb] at hp
      obtain ⟨xs, hxs, hb2⟩ := h3 hn hp.suf
      refine ⟨x :: xs, fun y hy => ?_, by rw [hb, hb2]; rfl⟩
      rcases List.mem_cons.mp hy with rfl | hy
      · exact hx
      · exact hxs y hy
theorem sg_long {s : ByteArray} (h : 255 < s.size) : Ev (fun k => impl_SgParse.f k s) (⟨#[]⟩, false) := by
  unfold impl_SgParse.f dbus_ParseSignature.f
  exact Ev.bind (ev_ite_neg (by omega) (fun _ => rfl) (ev_ite_pos h (fun _ => rfl) (Ev.now _))) (Ev.bind (Ev.now _) (ev_ite_neg (show ¬ (false = true) by decide) (fun _ => rfl) (Ev.now _)))
theorem sg_err {s : ByteArray} (h : s.size ≤ 255) {v : TypeId × Value} (he : Ev (fun k => dbus_ParseSignature.l k none s) (some v)) : Ev (fun k => impl_SgParse.f k s) (⟨#[]⟩, false) := by
  have h0 : ¬ s.size = 0 := by
    intro h0
    obtain ⟨K1, h1⟩ := he
    obtain ⟨K2, h2⟩ := p_nil h0
    have := (h1 (max K1 K2) (Nat.le_max_left _ _)).symm.trans (h2 (max K1 K2) (Nat.le_max_right _ _))
    cases this
  unfold impl_SgParse.f dbus_ParseSignature.f
  exact Ev.bind (ev_ite_neg h0 (fun _ => rfl) (ev_ite_neg (by omega) (fun _ => rfl) (Ev.bind he (ev_ite_pos rfl (fun _ => rfl) (Ev.now _))))) (Ev.bind (Ev.now _) (ev_ite_neg (show ¬ (false = true) by decide) (fun _ => rfl) (Ev.now _)))
theorem sg_ok {s : ByteArray} (h : s.size ≤ 255) (he : Ev (fun k => dbus_ParseSignature.l k none s) none) : Ev (fun k => impl_SgParse.f k s) (s, true) := by
  unfold impl_SgParse.f dbus_ParseSignature.f
  by_cases h0 : s.size = 0
  · have e : s = ⟨#[]⟩ := bl_ext (List.eq_nil_of_length_eq_zero h0)
    subst e
    exact Ev.bind (ev_ite_pos h0 (fun _ => rfl) (Ev.now _)) (Ev.bind (Ev.now _) (ev_ite_pos rfl (fun _ => rfl) (Ev.now _)))
  · exact Ev.bind (ev_ite_neg h0 (fun _ => rfl) (ev_ite_neg (by omega) (fun _ => rfl) (Ev.bind he (ev_ite_neg (show ¬ (false = true) by decide) (fun _ => rfl) (Ev.now _))))) (Ev.bind (Ev.now _) (ev_ite_pos rfl (fun _ => rfl) (Ev.now _)))
/-- Complete types are taken. -/
theorem sg_good {s : ByteArray} (h : s.size ≤ 255) {xs : List (List UInt8)} (hx : ∀ x ∈ xs, T 32 32 32 x) (hb : bl s = xs.flatten) : Ev (fun k => impl_SgParse.f k s) (s, true) :=
  sg_ok h (eat none ⟨#[]⟩ (p_nil rfl) xs s hx (by rw [hb]; simp [bl]) (by omega))
end Go.Proofs.Ytfipimoemhbnlaa.MFnSgReplacep
