/- The inner check of members' names takes just the texts of letters of ASCII, digits and '_', one at least, the first no digit, of at most 255 bytes: it answers as the reference does for every text (texts longer than 4096 bytes are answered at once). -/
import Derived.Test.YtcdbhpmnilfpfaaMFnNmAllw
namespace Go.Proofs.Ytcdbhpmnilfpfaa.MFnNmAllm
open Go Go.RowKit Go.Proofs.Ytcdbhpmnilfpfaa.MFnNmAll Go.Proofs.YtcdbhpmnilfpfaaW.PrintMore Go.Proofs.YtcdbhpmnilfpfaaW.PrintWords Go.Proofs.YtcdbhpmnilfpfaaW.PrintLast Go.Proofs.Ytcdbhpmnilfpfaa.Hlp Go.Proofs.Ytcdbhpmnilfpfaa.MFnNmAllw

/-- What a member's name is. -/
def Good (s : ByteArray) : Prop := s.size ≤ 255 ∧ (∀ j : Nat, 0 ≤ j → j < s.size → bt s j ≠ 46) ∧ 0 < s.size ∧ ¬ (48 ≤ bt s 0 ∧ bt s 0 ≤ 57) ∧ ∀ j : Nat, 0 ≤ j → j < s.size → Mem (bt s j)

theorem impl_side (s : ByteArray) (hs : s.size ≤ 140737488351232) : ∃ r, Ev (fun k => impl_NmMember.f k s) r ∧ (r = true ↔ Good s) := by
  have lift : ∀ r, Ev (fun k => dbus_isValidMember.f k s) r → Ev (fun k => impl_NmMember.f k s) r := by
    intro r h
    unfold impl_NmMember.f dbus_DoorMember.f
    exact Ev.bind (Ev.bind h (Ev.now r)) (Ev.now r)
  suffices h : ∃ r, Ev (fun k => dbus_isValidMember.f k s) r ∧ (r = true ↔ Good s) by
    obtain ⟨r, h1, h2⟩ := h
    exact ⟨r, lift r h1, h2⟩
  unfold dbus_isValidMember.f
  by_cases h0 : s.size = 0
  · refine ⟨false, ev_ite_pos h0 (fun _ => rfl) (Ev.now _), ?_⟩
    simp only [Bool.false_eq_true, false_iff]; intro g; have := g.2.2.1; omega
  by_cases h1 : 255 < s.size
  · refine ⟨false, ev_ite_neg h0 (fun _ => rfl) (ev_ite_pos h1 (fun _ => rfl) (Ev.now _)), ?_⟩
    simp only [Bool.false_eq_true, false_iff]; intro g; have := g.1; omega
  obtain ⟨i, hi, hi2⟩ := index s hs s.size 0 (by omega) (by omega)
  have hf : Ev (fun k => dbus_zzIndex.f k s ⟨#[46]⟩) i := hi
  by_cases hm : i = -1
  · have hno := hi2.mp hm
    obtain ⟨r, hr, hr2⟩ := runes s s.size 0 (by omega) (by omega)
    have e0 : bt s ((0 : Nat) : Int) = bt s 0 := rfl
    by_cases d1 : 48 ≤ bt s 0
    · by_cases d2 : bt s 0 ≤ 57
      · refine ⟨false, ev_ite_neg h0 (fun _ => rfl) (ev_ite_neg h1 (fun _ => rfl) (Ev.bind hf (ev_ite_pos hm (fun _ => rfl) (ev_ite_pos d1 (fun _ => rfl) (ev_ite_pos d2 (fun _ => rfl) (Ev.now _)))))), ?_⟩
        simp only [Bool.false_eq_true, false_iff]; intro g; exact g.2.2.2.1 ⟨d1, d2⟩
      · refine ⟨r, ev_ite_neg h0 (fun _ => rfl) (ev_ite_neg h1 (fun _ => rfl) (Ev.bind hf (ev_ite_pos hm (fun _ => rfl) (ev_ite_pos d1 (fun _ => rfl) (ev_ite_neg d2 (fun _ => rfl) hr))))), ?_⟩
        rw [hr2]
        exact ⟨fun q => ⟨by omega, hno, by omega, fun z => d2 z.2, q⟩, fun g => g.2.2.2.2⟩
    · refine ⟨r, ev_ite_neg h0 (fun _ => rfl) (ev_ite_neg h1 (fun _ => rfl) (Ev.bind hf (ev_ite_pos hm (fun _ => rfl) (ev_ite_neg d1 (fun _ => rfl) hr)))), ?_⟩
      rw [hr2]
      exact ⟨fun q => ⟨by omega, hno, by omega, fun z => d1 z.1, q⟩, fun g => g.2.2.2.2⟩
  · refine ⟨false, ev_ite_neg h0 (fun _ => rfl) (ev_ite_neg h1 (fun _ => rfl) (Ev.bind hf (ev_ite_neg hm (fun _ => rfl) (Ev.now _)))), ?_⟩
    simp only [Bool.false_eq_true, false_iff]; intro g; exact hm (hi2.mpr g.2.1)

theorem named_one (s : ByteArray) (hs : s.size ≤ 140737488351232) (hno : ∀ j : Nat, 0 ≤ j → j < s.size → bt s j ≠ 46) :
    ∃ r, Ev (fun k => spec_named.f k s false false) r ∧ (r = true ↔ 0 < s.size ∧ ¬ (48 ≤ bt s 0 ∧ bt s 0 ≤ 57) ∧ ∀ j : Nat, 0 ≤ j → j < s.size → Mem (bt s j)) := by
  have hsp : Ev (fun k => spec_Split.f k s 46) [s] := split_one s hs s.size 0 (by omega) (by omega) hno
  unfold spec_named.f
  suffices h : ∃ r, Ev (fun k => spec_named.l0 k false false [s] (([s] : List ByteArray).length : Int) 0) r ∧ (r = true ↔ 0 < s.size ∧ ¬ (48 ≤ bt s 0 ∧ bt s 0 ≤ 57) ∧ ∀ j : Nat, 0 ≤ j → j < s.size → Mem (bt s j)) by
    obtain ⟨r, h1, h2⟩ := h
    exact ⟨r, Ev.bind hsp h1, h2⟩
  have e1 : ((([s] : List ByteArray).length : Nat) : Int) = 1 := rfl
  have e2 : rdOf ByteArray.empty [s] 0 = s := rfl
  have e3 : wrap64 ((0 : Int) + 1) = 1 := by unfold wrap64; omega
  have last : Ev (fun k => spec_named.l0 k false false [s] 1 (wrap64 ((0 : Int) + 1))) true :=
    Ev.step (f := fun _ => some true) (fun k => by simp only [spec_named.l0, e3]; rw [if_neg (by omega)]) (Ev.now _)
  obtain ⟨y, n⟩ := bytes_of s hs [s] 1 0 s.size 0 (by omega) (by omega)
  rw [e1]
  by_cases h0 : s.size = 0
  · refine ⟨false, Ev.step (f := fun k => spec_named.j1 k false false s [s] 1 0 true) (fun k => ?_) (Ev.step (f := fun _ => some false) (fun k => ?_) (Ev.now _)), ?_⟩
    · simp only [spec_named.l0, e1, e2]
      rw [if_pos (by omega), if_pos (by omega), if_pos (by omega), if_pos ((emp_iff s).mpr h0)]
    · simp only [spec_named.j1]; exact if_pos trivial
    · simp only [Bool.false_eq_true, false_iff]; intro g; omega
  have hne : ¬ s.toList = ([] : List UInt8) := fun q => h0 ((emp_iff s).mp q)
  have down : ∀ b r, (∀ k, spec_named.l0 (k + 1) false false [s] 1 0 = spec_named.j1 k false false s [s] 1 0 b) → b = false → Ev (fun k => spec_named.l1 k false false s 0 [s] 1 0) r → Ev (fun k => spec_named.l0 k false false [s] 1 0) r := by
    intro b r h1 hb h2
    subst hb
    refine Ev.step h1 (Ev.step (fun k => ?_) h2)
    simp only [spec_named.j1]; rw [if_neg (by decide)]
  have fin : ∀ b, (∀ k, spec_named.l0 (k + 1) false false [s] 1 0 = spec_named.j1 k false false s [s] 1 0 b) → b = false → ¬ (48 ≤ bt s 0 ∧ bt s 0 ≤ 57) → ∃ r, Ev (fun k => spec_named.l0 k false false [s] 1 0) r ∧ (r = true ↔ 0 < s.size ∧ ¬ (48 ≤ bt s 0 ∧ bt s 0 ≤ 57) ∧ ∀ j : Nat, 0 ≤ j → j < s.size → Mem (bt s j)) := by
    intro b h1 hb hd
    by_cases hall : ∀ j : Nat, 0 ≤ j → j < s.size → Mem (bt s j)
    · exact ⟨true, down b true h1 hb (y hall true last), by simp only [true_iff]; exact ⟨by omega, hd, hall⟩⟩
    · exact ⟨false, down b false h1 hb (n hall), by simp only [Bool.false_eq_true, false_iff]; intro g; exact hall g.2.2⟩
  by_cases d1 : 48 ≤ bt s 0
  · have st : ∀ k, spec_named.l0 (k + 1) false false [s] 1 0 = spec_named.j1 k false false s [s] 1 0 (decide (bt s 0 ≤ 57)) := by
      intro k
      simp only [spec_named.l0, e1, e2]
      rw [if_pos (by omega), if_pos (by omega), if_pos (by omega), if_neg hne, if_neg (by decide), if_pos (by omega), if_pos d1]
    by_cases d2 : bt s 0 ≤ 57
    · refine ⟨false, Ev.step st (Ev.step (f := fun _ => some false) (fun k => ?_) (Ev.now _)), ?_⟩
      · simp only [spec_named.j1]; rw [if_pos (decide_eq_true d2)]
      · simp only [Bool.false_eq_true, false_iff]; intro g; exact g.2.1 ⟨d1, d2⟩
    · exact fin _ st (decide_eq_false d2) (fun z => d2 z.2)
  · refine fin false (fun k => ?_) rfl (fun z => d1 z.1)
    simp only [spec_named.l0, e1, e2]
    rw [if_pos (by omega), if_pos (by omega), if_pos (by omega), if_neg hne, if_neg (by decide), if_pos (by omega), if_neg (by omega)]

theorem spec_side (s : ByteArray) (hs : s.size ≤ 140737488351232) : ∃ r, Ev (fun k => spec_ValidMember.f k s) r ∧ (r = true ↔ Good s) := by
  unfold spec_ValidMember.f
  by_cases h1 : (s.size : Int) ≤ 255
  · obtain ⟨p, hp, hp1, hp2⟩ := pts s hs s.size 0 0 (by omega) (by omega) (by omega)
    have hf : Ev (fun k => spec_points.f k s) (p : Int) := hp
    by_cases hz : p = 0
    · have hno := hp2.mp hz
      obtain ⟨r, hr, hr2⟩ := named_one s hs hno
      refine ⟨r, ev_ite_pos h1 (fun _ => rfl) (Ev.bind hf (ev_ite_pos (by omega) (fun _ => rfl) (Ev.bind hr (Ev.now _)))), ?_⟩
      rw [hr2]
      exact ⟨fun q => ⟨by omega, hno, q⟩, fun g => g.2.2⟩
    · refine ⟨false, ev_ite_pos h1 (fun _ => rfl) (Ev.bind hf (ev_ite_neg (by omega) (fun _ => rfl) (Ev.now _))), ?_⟩
      simp only [Bool.false_eq_true, false_iff]; intro g; exact hz (hp2.mpr g.2.1)
  · refine ⟨false, ev_ite_neg h1 (fun _ => rfl) (Ev.now _), ?_⟩
    simp only [Bool.false_eq_true, false_iff]; intro g; have := g.1; omega

/-- Both say the same of a member's name. -/
theorem both (s : ByteArray) (hs : s.size ≤ 100000) : ∃ b, Ev (fun k => impl_NmMember.f k s) b ∧ Ev (fun k => spec_ValidMember.f k s) b := by
  obtain ⟨a, ha, ha2⟩ := impl_side s (by omega)
  obtain ⟨b, hb, hb2⟩ := spec_side s (by omega)
  have hab : a = b := by rw [Bool.eq_iff_iff, ha2, hb2]
  exact ⟨a, ha, by rw [hab]; exact hb⟩
end Go.Proofs.Ytcdbhpmnilfpfaa.MFnNmAllm
