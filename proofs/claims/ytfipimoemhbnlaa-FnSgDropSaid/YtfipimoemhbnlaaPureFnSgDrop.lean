/- A signature (at most 255 bytes, not empty) without one of its complete types is a signature of the others, in their order: ParseSignature takes it, and the inner reader goes through it type by type. -/
import Derived.Test.YtfipimoemhbnlaaMFnSgDropb
import Derived.OpenShut
namespace Go.Proofs.Ytfipimoemhbnlaa.Pure
open Go Go.RowKit Go.Proofs.Ytfipimoemhbnlaa.MFnSgDrop Go.Proofs.YtfipimoemhbnlaaW.PrintWords Go.Proofs.YtfipimoemhbnlaaW.PrintLast Go.Proofs.Ytfipimoemhbnlaa.Hlp Go.Proofs.Ytfipimoemhbnlaa.SgT Go.Proofs.Ytfipimoemhbnlaa.MFnSgDropi Go.Proofs.Ytfipimoemhbnlaa.MFnSgDropp Go.Proofs.Ytfipimoemhbnlaa.MFnSgDropb Go.Proofs.Ytfipimoemhbnlaa.MFnSgDropy
set_option linter.unusedVariables false

theorem walk_l (L : List ByteArray) (hL : L.length ≤ 1000) (hg : ∀ x ∈ L.map bl, T 32 32 32 x) (d : Nat) : ∀ (i : Nat) (s : ByteArray), L.length - i = d → i ≤ L.length → s.size ≤ 255 → bl s = ((L.drop i).map bl).flatten →
    Ev (fun k => laws_sgWalk.l0 k s L (L.length : Int) (i : Int)) true := by
  induction d using Nat.strongRecOn with
  | _ d ih =>
  intro i s hd hi hs hb
  cases hc : L.drop i with
  | nil =>
    have hnl : ¬ i < L.length := by
      have := congrArg List.length hc
      rw [List.length_drop] at this
      simp at this; omega
    refine Ev.step (f := fun _ => some true) (fun k => ?_) (Ev.now _)
    have h0 : s.toList = ([] : List UInt8) := by rw [toList_bl, hb, hc]; rfl
    simp only [laws_sgWalk.l0]
    rw [if_neg (by omega), h0]; rfl
  | cons z r =>
    have hlt := ldrop_lt hc
    rw [hc] at hb
    simp only [List.map_cons, List.flatten_cons] at hb
    have hz : bl z ∈ L.map bl := by
      refine List.mem_map.mpr ⟨z, ?_, rfl⟩
      have : z ∈ L.drop i := by rw [hc]; exact List.mem_cons_self
      exact List.mem_of_mem_drop this
    have tz := hg _ hz
    have hl := tz.len
    have hzl : (bl z).length = z.size := bl_len z
    have hzs : z.size ≤ s.size := by
      have := congrArg List.length hb
      rw [List.length_append, bl_len, bl_len] at this; omega
    have h1 := sb_take tz hb (by omega)
    have h3 := ih (L.length - (i + 1)) (by omega) (i + 1) (s.extract (bl z).length s.size) rfl (by omega) (by rw [size_drop]; omega) (by rw [bl_drop, hb, ldrop_succ hc]; simp)
    have hw := wd (s := s) (n := (bl z).length) (by omega) (by rw [bl_len]; omega)
    refine Ev.step (f := fun k => (impl_SgBegin.f k s 0 0 0).bind fun bt126 => (if bt126.2 = true then (if (bt126.1.size : Int) ≥ (s.size : Int) then (some false) else (if 0 ≤ (wrap64 ((s.size : Int) - (bt126.1.size : Int))) then (if (wrap64 ((s.size : Int) - (bt126.1.size : Int))) ≤ (s.size : Int) then (if (s.extract 0 ((wrap64 ((s.size : Int) - (bt126.1.size : Int))) : Int).toNat).toList = z.toList then (laws_sgWalk.l0 k bt126.1 L (L.length : Int) (wrap64 ((i : Int) + 1))) else (some false)) else (none)) else (none))) else (some false))) (fun k => ?_) ?_
    · simp only [laws_sgWalk.l0]
      rw [if_pos (by omega), if_pos (by omega), if_pos (by omega), rd_at hc]
    · refine Ev.bind h1 (ev_ite_pos rfl (fun _ => rfl) (ev_ite_neg ?_ (fun _ => rfl) (ev_ite_pos ?_ (fun _ => rfl) (ev_ite_pos ?_ (fun _ => rfl) (ev_ite_pos ?_ (fun _ => rfl) ?_)))))
      · simp only [size_drop]; omega
      · simp only [hw]; omega
      · simp only [hw]; rw [bl_len]; omega
      · simp only [hw, Int.toNat_natCast, front hb]
      · rw [wi i (by omega)]
        exact h3
theorem walk (L : List ByteArray) (hL : L.length ≤ 1000) (hg : ∀ x ∈ L.map bl, T 32 32 32 x) (s : ByteArray) (hs : s.size ≤ 255) (hb : bl s = (L.map bl).flatten) : Ev (fun k => laws_sgWalk.f k s L) true :=
  Ev.bind (sg_good hs hg hb) (ev_ite_pos rfl (fun _ => rfl) (walk_l L hL hg L.length 0 s (by omega) (by omega) hs (by rw [List.drop_zero]; exact hb)))

/-- Texts are put one behind the other. -/
theorem joined_l (L : List ByteArray) (hL : L.length ≤ 1000) (d : Nat) : ∀ (i : Nat) (s : ByteArray), L.length - i = d → i ≤ L.length → s.size + ((L.drop i).map bl).flatten.length ≤ 1000 →
    ∃ r, Ev (fun k => spec_Joined.l0 k ⟨#[]⟩ s L (L.length : Int) (i : Int)) r ∧ bl r = bl s ++ ((L.drop i).map bl).flatten := by
  induction d using Nat.strongRecOn with
  | _ d ih =>
  intro i s hd hi hs
  have e0 : (⟨#[]⟩ : ByteArray).size = 0 := rfl
  have en : ∀ s : ByteArray, s ++ (⟨#[]⟩ : ByteArray) = s := fun s => bl_ext (by rw [bl_append]; simp [bl])
  cases hc : L.drop i with
  | nil =>
    have hnl : ¬ i < L.length := by
      have := congrArg List.length hc
      rw [List.length_drop] at this
      simp at this; omega
    refine ⟨s, Ev.step (f := fun _ => some s) (fun k => ?_) (Ev.now _), by simp⟩
    simp only [spec_Joined.l0]
    rw [if_neg (by omega)]
  | cons z r =>
    have hlt := ldrop_lt hc
    rw [hc] at hs
    simp only [List.map_cons, List.flatten_cons, List.length_append, bl_len] at hs
    have hsz : (s ++ z).size = s.size + z.size := ByteArray.size_append
    obtain ⟨r', hr, hb⟩ := ih (L.length - (i + 1)) (by omega) (i + 1) (s ++ z) rfl (by omega) (by rw [ldrop_succ hc, hsz]; omega)
    refine ⟨r', Ev.step (fun k => ?_) hr, by rw [hb, bl_append, ldrop_succ hc]; simp⟩
    simp only [spec_Joined.l0]
    rw [if_pos (by omega), if_pos (by omega), if_pos (by omega), rd_at hc, wi i (by omega), en]
    by_cases h0 : (i : Int) > 0
    · rw [if_pos h0, if_pos (by omega), if_pos (by omega)]
    · rw [if_neg h0, if_pos (by omega)]
theorem joined (L : List ByteArray) (hL : L.length ≤ 1000) (hs : (L.map bl).flatten.length ≤ 1000) : ∃ r, Ev (fun k => spec_Joined.f k L ⟨#[]⟩) r ∧ bl r = (L.map bl).flatten := by
  obtain ⟨r, h1, h2⟩ := joined_l L hL L.length 0 ⟨#[]⟩ (by omega) (by omega) (by rw [List.drop_zero, show (⟨#[]⟩ : ByteArray).size = 0 from rfl]; omega)
  exact ⟨r, h1, by rw [h2, List.drop_zero]; rfl⟩
theorem count : ∀ (M : List ByteArray), (∀ x ∈ M.map bl, T 32 32 32 x) → M.length ≤ ((M.map bl).flatten).length
  | [], _ => by simp
  | z :: M, h => by
    have h3 := (h (bl z) (by simp)).len
    have h4 := count M (fun x hx => h x (by rw [List.map_cons]; exact List.mem_cons_of_mem _ hx))
    simp only [List.map_cons, List.flatten_cons, List.length_append, List.length_cons]; omega

theorem drop_main (w : Nat) (hw : w < 256) (L : List ByteArray) (hne : L.length ≠ 0) (hg : ∀ x ∈ L.map bl, T 32 32 32 x) (hf : (L.map bl).flatten.length ≤ 255) : Ev (fun k => laws_FnSgDrop.j0 k (w : Int) L false) true := by
  have hcL := count L hg
  have e1 : wrap64 (w : Int) = (w : Int) := w64 (by omega) (by omega)
  have e2 : Int.tmod (w : Int) (L.length : Int) = ((w % L.length : Nat) : Int) := by rw [Int.tmod_eq_emod_of_nonneg (by omega)]; omega
  have hm : w % L.length < L.length := Nat.mod_lt _ (by omega)
  generalize hmm : w % L.length = m at hm e2
  have e3 : wrap64 ((m : Int) + 1) = ((m + 1 : Nat) : Int) := wi m (by omega)
  have hR : ∀ x ∈ (L.take m ++ L.drop (m + 1)).map bl, T 32 32 32 x := by
    intro x hx
    obtain ⟨z, hz, rfl⟩ := List.mem_map.mp hx
    refine hg _ (List.mem_map.mpr ⟨z, ?_, rfl⟩)
    rcases List.mem_append.mp hz with h | h
    · exact List.mem_of_mem_take h
    · exact List.mem_of_mem_drop h
  have hRl : ((L.take m ++ L.drop (m + 1)).map bl).flatten.length ≤ 255 := by
    have h1 : L = L.take m ++ L.drop m := (List.take_append_drop m L).symm
    have h2 : (L.map bl).flatten.length = ((L.take m).map bl).flatten.length + ((L.drop m).map bl).flatten.length := by
      rw [← List.length_append, ← List.flatten_append, ← List.map_append, ← h1]
    have h3 : ((L.drop (m + 1)).map bl).flatten.length ≤ ((L.drop m).map bl).flatten.length := by
      rw [List.drop_eq_getElem_cons hm, List.map_cons, List.flatten_cons, List.length_append]; omega
    rw [List.map_append, List.flatten_append, List.length_append]; omega
  have hRc := count _ hR
  obtain ⟨r, hr, hb⟩ := joined (L.take m ++ L.drop (m + 1)) (by omega) (by omega)
  have hrs : r.size ≤ 255 := by rw [← bl_len, hb]; exact hRl
  have w1 := walk _ (by omega) hR r hrs hb
  have w2 := walk [⟨#[121]⟩] (by simp) (by intro x hx; rw [List.map_cons, List.map_nil] at hx; rw [List.mem_singleton.mp hx]; exact T.one (by omega) (by omega) (by omega) (by decide)) ⟨#[121]⟩ (by decide) rfl
  have f : ∀ k, laws_FnSgDrop.j0 (k + 1) (w : Int) L false = (spec_Joined.f k (L.take m ++ L.drop (m + 1)) (⟨#[]⟩ : ByteArray)).bind fun t150 => ((laws_sgWalk.f k t150 (L.take m ++ L.drop (m + 1))).bind fun t151 => (if t151 = true then ((laws_sgWalk.f k (⟨#[121]⟩ : ByteArray) (([(⟨#[121]⟩ : ByteArray)] : List ByteArray))).bind fun t155 => (some t155)) else (some false))) := by
    intro k
    simp only [laws_FnSgDrop.j0]
    rw [if_neg (by decide), if_neg (by omega)]
    simp only [Option.bind_some, e1, e2, e3, List.nil_append, Int.toNat_natCast, List.length_nil]
    rw [if_pos (by omega), if_pos (by omega), if_pos (by rw [List.length_take]; omega), if_pos (by omega), if_pos (by omega), if_pos (by rw [List.length_take, List.length_drop]; omega)]
  exact Ev.step f (Ev.bind hr (Ev.bind w1 (ev_ite_pos rfl (fun _ => rfl) (Ev.bind w2 (Ev.now _)))))

theorem FnSgDrop : laws_FnSgDrop.Pure := by
  intro s which hs hwf
  have hwh : 0 ≤ which ∧ which ≤ 255 := by
    simp only [Lit.wf] at hwf
    exact bounds_u8 hwf
  obtain ⟨w, rfl⟩ := Int.eq_ofNat_of_zero_le hwh.1
  apply Ev.rounds
  unfold laws_FnSgDrop.f
  have j0t : ∀ L, Ev (fun k => laws_FnSgDrop.j0 k (w : Int) L true) true := by
    intro L
    refine Ev.step (f := fun _ => some true) (fun k => ?_) (Ev.now _)
    simp only [laws_FnSgDrop.j0]; exact if_pos trivial
  by_cases h1 : (s.size : Int) > 2147483647
  · exact ev_ite_pos h1 (fun _ => rfl) (Ev.now _)
  refine ev_ite_neg h1 (fun _ => rfl) ?_
  by_cases hbig : 1000000000 < s.size
  · have h2 : Ev (fun k => spec_Types.f k s) ([], false) := ev_ite_pos (by omega) (fun _ => rfl) (Ev.now _)
    exact Ev.bind h2 (ev_ite_neg (by decide) (fun _ => rfl) (j0t _))
  obtain ⟨L, b, hL, hr⟩ := types s (by omega)
  rcases hr with ⟨rfl, hsz, hg, hf⟩ | ⟨rfl, _, _⟩
  · refine Ev.bind hL (ev_ite_pos rfl (fun _ => rfl) ?_)
    by_cases he : L.length = 0
    · rw [show ((L.length : Int) == 0) = true by rw [beq_iff_eq]; omega]; exact j0t _
    · rw [show ((L.length : Int) == 0) = false by rw [beq_eq_false_iff_ne]; omega]
      exact drop_main w (by omega) L he hg (by rw [← hf, bl_len]; exact hsz)
  · exact Ev.bind hL (ev_ite_neg (show ¬ (false = true) by decide) (fun _ => rfl) (j0t _))

end Go.Proofs.Ytfipimoemhbnlaa.Pure
