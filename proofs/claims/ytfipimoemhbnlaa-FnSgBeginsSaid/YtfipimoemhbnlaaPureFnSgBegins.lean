/- The inner reader of complete types goes through every signature (at most 255 bytes) type by type, as the reference splits it, and each type alone is taken by ParseSignature. -/
import Derived.Test.YtfipimoemhbnlaaMFnSgBeginsb
namespace Go.Proofs.Ytfipimoemhbnlaa.Pure
open Go Go.RowKit Go.Proofs.Ytfipimoemhbnlaa.MFnSgBegins Go.Proofs.YtfipimoemhbnlaaW.PrintWords Go.Proofs.YtfipimoemhbnlaaW.PrintLast Go.Proofs.Ytfipimoemhbnlaa.Hlp Go.Proofs.Ytfipimoemhbnlaa.SgT Go.Proofs.Ytfipimoemhbnlaa.MFnSgBeginsi Go.Proofs.Ytfipimoemhbnlaa.MFnSgBeginsp Go.Proofs.Ytfipimoemhbnlaa.MFnSgBeginsb Go.Proofs.Ytfipimoemhbnlaa.MFnSgBeginsy
set_option linter.unusedVariables false

theorem walk (L : List ByteArray) (hL : L.length ≤ 1000) (hg : ∀ x ∈ L.map bl, T 32 32 32 x) (d : Nat) : ∀ (i : Nat) (s : ByteArray), L.length - i = d → i ≤ L.length → s.size ≤ 255 → bl s = ((L.drop i).map bl).flatten →
    Ev (fun k => laws_FnSgBegins.l0 k s L (L.length : Int) (i : Int)) true := by
  induction d using Nat.strongRecOn with
  | _ d ih =>
  intro i s hd hi hs hb
  cases hc : L.drop i with
  | nil =>
    have hnl : ¬ i < L.length := by
      have := congrArg List.length hc
      rw [List.length_drop] at this
      simp at this; omega
    refine Ev.step (f := fun _ => some true) (fun k => ?_) (Ev.now _)
    have h0 : s.toList = ([] : List UInt8) := by rw [toList_bl, hb, hc]; rfl
    simp only [laws_FnSgBegins.l0]
    rw [if_neg (by omega), h0]; rfl
  | cons z r =>
    have hlt := ldrop_lt hc
    rw [hc] at hb
    simp only [List.map_cons, List.flatten_cons] at hb
    have hz : bl z ∈ L.map bl := by
      refine List.mem_map.mpr ⟨z, ?_, rfl⟩
      have : z ∈ L.drop i := by rw [hc]; exact List.mem_cons_self
      exact List.mem_of_mem_drop this
    have tz := hg _ hz
    have hl := tz.len
    have hzl : (bl z).length = z.size := bl_len z
    have hzs : z.size ≤ s.size := by
      have := congrArg List.length hb
      rw [List.length_append, bl_len, bl_len] at this; omega
    have h1 := sb_take tz hb (by omega)
    have h2 := sg_good (s := z) (xs := [bl z]) (by omega) (by intro x hx; rw [List.mem_singleton.mp hx]; exact tz) (by simp)
    have h3 := ih (L.length - (i + 1)) (by omega) (i + 1) (s.extract (bl z).length s.size) rfl (by omega) (by rw [size_drop]; omega) (by rw [bl_drop, hb, ldrop_succ hc]; simp)
    have hw := wd (s := s) (n := (bl z).length) (by omega) (by rw [bl_len]; omega)
    refine Ev.step (f := fun k => (impl_SgBegin.f k s 0 0 0).bind fun bt128 => (if bt128.2 = true then (if (bt128.1.size : Int) ≥ (s.size : Int) then (laws_FnSgBegins.j2 k z bt128.1 L (L.length : Int) (i : Int) true) else (if 0 ≤ (wrap64 ((s.size : Int) - (bt128.1.size : Int))) then (if (wrap64 ((s.size : Int) - (bt128.1.size : Int))) ≤ (s.size : Int) then (laws_FnSgBegins.j2 k z bt128.1 L (L.length : Int) (i : Int) ((s.extract 0 ((wrap64 ((s.size : Int) - (bt128.1.size : Int))) : Int).toNat).toList != z.toList)) else (none)) else (none))) else (laws_FnSgBegins.j2 k z bt128.1 L (L.length : Int) (i : Int) true))) (fun k => ?_) ?_
    · simp only [laws_FnSgBegins.l0]
      rw [if_pos (by omega), if_pos (by omega), if_pos (by omega), rd_at hc]
    · refine Ev.bind h1 (ev_ite_pos rfl (fun _ => rfl) (ev_ite_neg ?_ (fun _ => rfl) (ev_ite_pos ?_ (fun _ => rfl) (ev_ite_pos ?_ (fun _ => rfl) ?_))))
      · simp only [size_drop]; omega
      · simp only [hw]; omega
      · simp only [hw]; rw [bl_len]; omega
      · simp only [hw, Int.toNat_natCast, front hb]
        have e : (z.toList != z.toList) = false := by simp
        rw [e]
        refine Ev.step (f := fun k => (impl_SgParse.f k z).bind fun bt130 => (if bt130.2 = true then (laws_FnSgBegins.l0 k (s.extract (bl z).length s.size) L (L.length : Int) (wrap64 ((i : Int) + 1))) else (some false))) (fun k => ?_) ?_
        · simp only [laws_FnSgBegins.j2]; rw [if_neg (by decide)]
        · refine Ev.bind h2 (ev_ite_pos rfl (fun _ => rfl) ?_)
          rw [wi i (by omega)]
          exact h3

theorem FnSgBegins : laws_FnSgBegins.Pure := by
  intro s hs
  apply Ev.rounds
  unfold laws_FnSgBegins.f
  have j0t : ∀ L, Ev (fun k => laws_FnSgBegins.j0 k s L true) true := by
    intro L
    refine Ev.step (f := fun _ => some true) (fun k => ?_) (Ev.now _)
    simp only [laws_FnSgBegins.j0]; exact if_pos trivial
  by_cases h1 : (s.size : Int) > 2147483647
  · exact ev_ite_pos h1 (fun _ => rfl) (Ev.now _)
  refine ev_ite_neg h1 (fun _ => rfl) ?_
  by_cases hbig : 1000000000 < s.size
  · have h2 : Ev (fun k => spec_Types.f k s) ([], false) := ev_ite_pos (by omega) (fun _ => rfl) (Ev.now _)
    exact Ev.bind h2 (ev_ite_neg (by decide) (fun _ => rfl) (j0t _))
  obtain ⟨L, b, hL, hr⟩ := types s (by omega)
  rcases hr with ⟨rfl, hsz, hg, hf⟩ | ⟨rfl, _, _⟩
  · refine Ev.bind hL (ev_ite_pos rfl (fun _ => rfl) ?_)
    cases he : (s.toList == ([] : List UInt8)) with
    | true => exact j0t _
    | false =>
      refine Ev.step (fun k => ?_) (walk L ?_ hg L.length 0 s (by omega) (by omega) hsz (by rw [List.drop_zero]; exact hf))
      · simp only [laws_FnSgBegins.j0]; rw [if_neg (by decide)]; rfl
      · have hcount : ∀ (M : List ByteArray), (∀ x ∈ M.map bl, T 32 32 32 x) → M.length ≤ ((M.map bl).flatten).length := by
          intro M
          induction M with
          | nil => intro _; simp
          | cons z M ihM =>
            intro h
            have h3 := (h (bl z) (by simp)).len
            have h4 := ihM (fun x hx => h x (by rw [List.map_cons]; exact List.mem_cons_of_mem _ hx))
            simp only [List.map_cons, List.flatten_cons, List.length_append, List.length_cons]; omega
        have := hcount L hg
        rw [← hf, bl_len] at this; omega
  · exact Ev.bind hL (ev_ite_neg (show ¬ (false = true) by decide) (fun _ => rfl) (j0t _))

end Go.Proofs.Ytfipimoemhbnlaa.Pure
