/- Plain laws on the checks of names: what single characters are let in, the walks over bytes and runes. -/
import Derived.Test.YtcdbhpmnilfpfaaMFnNmAllx
import Derived.Test.YtcdbhpmnilfpfaaHlp
namespace Go.Proofs.Ytcdbhpmnilfpfaa.MFnNmAllw
open Go Go.RowKit Go.Proofs.Ytcdbhpmnilfpfaa.MFnNmAll Go.Proofs.YtcdbhpmnilfpfaaW.PrintWords Go.Proofs.YtcdbhpmnilfpfaaW.PrintLast Go.Proofs.Ytcdbhpmnilfpfaa.Hlp
set_option linter.unusedVariables false

/-- A letter of ASCII, a digit or '_'. -/
def Mem (c : Int) : Prop := (48 ≤ c ∧ c ≤ 57) ∨ (65 ≤ c ∧ c ≤ 90) ∨ (97 ≤ c ∧ c ≤ 122) ∨ c = 95
instance (c : Int) : Decidable (Mem c) := by unfold Mem; exact inferInstance
theorem member_f (c : Int) : dbus_isMemberChar.f c = some (decide (Mem c)) := by
  unfold dbus_isMemberChar.f
  repeat' split
  all_goals (congr 1; first | (symm; exact decide_eq_true (by unfold Mem; omega)) | (rw [Bool.eq_iff_iff, beq_iff_eq, decide_eq_true_iff]; unfold Mem; omega))
theorem word_fin : ∀ n : Fin 256, spec_word.f (n.val : Int) = some (decide (Mem (n.val : Int))) := by decide +kernel
theorem word_f (s : ByteArray) (i : Int) : spec_word.f (bt s i) = some (decide (Mem (bt s i))) := by
  have h := bt_range s i
  have e : ((bt s i).toNat : Int) = bt s i := Int.toNat_of_nonneg h.1
  have := word_fin ⟨(bt s i).toNat, by omega⟩
  simp only [e] at this
  exact this

/-- The walk over a text's runes. -/
theorem runes (s : ByteArray) (d : Nat) : ∀ pos : Nat, s.size - pos = d → pos ≤ s.size → ∃ r, Ev (fun k => dbus_isValidMember.l k s pos) r ∧ (r = true ↔ ∀ j : Nat, pos ≤ j → j < s.size → Mem (bt s j)) := by
  induction d using Nat.strongRecOn with
  | _ d ih =>
  intro pos hd hp
  by_cases h : pos < s.size
  · by_cases hb : bt s pos < 128
    · obtain ⟨h1, h2⟩ := dec_lo s pos h hb
      by_cases hm : Mem (bt s pos)
      · obtain ⟨r, hr, hi⟩ := ih (s.size - (pos + 1)) (by omega) (pos + 1) rfl (by omega)
        refine ⟨r, Ev.step (f := fun k => dbus_isValidMember.l k s (pos + 1)) (fun k => ?_) hr, ?_⟩
        · simp only [dbus_isValidMember.l]
          rw [if_pos h, h1, h2, member_f, decide_eq_true hm]; rfl
        · rw [hi]
          constructor
          · intro hh j hj hjs
            by_cases e : j = pos
            · subst e; exact hm
            · exact hh j (by omega) hjs
          · intro hh j hj hjs; exact hh j (by omega) hjs
      · refine ⟨false, Ev.step (f := fun _ => some false) (fun k => ?_) (Ev.now _), ?_⟩
        · simp only [dbus_isValidMember.l]
          rw [if_pos h, h1, member_f, decide_eq_false hm]; rfl
        · simp only [Bool.false_eq_true, false_iff]
          intro hh; exact hm (hh pos (Nat.le_refl _) h)
    · obtain ⟨h1, h2⟩ := dec_hi s pos h (by omega)
      have hm : ¬ Mem ((Utf8.decode s pos).1 : Int) := by unfold Mem; omega
      refine ⟨false, Ev.step (f := fun _ => some false) (fun k => ?_) (Ev.now _), ?_⟩
      · simp only [dbus_isValidMember.l]
        rw [if_pos h, member_f, decide_eq_false hm]; rfl
      · simp only [Bool.false_eq_true, false_iff]
        intro hh
        have := hh pos (Nat.le_refl _) h
        unfold Mem at this; omega
  · refine ⟨true, Ev.step (f := fun _ => some true) (fun k => ?_) (Ev.now _), ?_⟩
    · simp only [dbus_isValidMember.l]; rw [if_neg h]
    · simp only [true_iff]
      intro j h1 h2; omega

/-- The search for a point. -/
theorem index (s : ByteArray) (hs : s.size ≤ 140737488351232) (d : Nat) : ∀ i : Nat, s.size - i = d → i ≤ s.size → ∃ r, Ev (fun k => dbus_zzIndex.l0 k s ⟨#[46]⟩ (i : Int)) r ∧ (r = -1 ↔ ∀ j : Nat, i ≤ j → j < s.size → bt s j ≠ 46) := by
  induction d using Nat.strongRecOn with
  | _ d ih =>
  intro i hd hi
  have e1 : (((⟨#[46]⟩ : ByteArray).size : Nat) : Int) = 1 := rfl
  have e2 : wrap64 ((i : Int) + 1) = (i : Int) + 1 := w64 (by omega) (by omega)
  have e3 : (i : Int).toNat = i := by omega
  have e4 : ((i : Int) + 1).toNat = i + 1 := by omega
  by_cases h : i < s.size
  · have h4 : (i : Int) + 1 ≤ (s.size : Int) := by omega
    have h0 : (0 : Int) ≤ (i : Int) := by omega
    have h5 : (i : Int) ≤ (i : Int) + 1 := by omega
    have hw : (s.extract i (i + 1)).toList = (⟨#[46]⟩ : ByteArray).toList ↔ bt s i = 46 := by
      rw [show (⟨#[46]⟩ : ByteArray).toList = [46] by rw [toList_bl]; rfl, one_byte s i h 46]; rfl
    by_cases hb : bt s i = 46
    · refine ⟨(i : Int), Ev.step (f := fun _ => some (i : Int)) (fun k => ?_) (Ev.now _), ?_⟩
      · simp only [dbus_zzIndex.l0, e1, e2, e3, e4]
        rw [if_pos h4, if_pos h0, if_pos h5, if_pos (hw.mpr hb)]
      · constructor
        · intro hh; omega
        · intro hh; exact absurd hb (hh i (Nat.le_refl _) h)
    · obtain ⟨r, hr, hi2⟩ := ih (s.size - (i + 1)) (by omega) (i + 1) rfl (by omega)
      refine ⟨r, Ev.step (f := fun k => dbus_zzIndex.l0 k s ⟨#[46]⟩ ((i + 1 : Nat) : Int)) (fun k => ?_) hr, ?_⟩
      · simp only [dbus_zzIndex.l0, e1, e2, e3, e4]
        rw [if_pos h4, if_pos h0, if_pos h5, if_neg (fun q => hb (hw.mp q))]; rfl
      · rw [hi2]
        constructor
        · intro hh j hj hjs
          by_cases e : j = i
          · subst e; exact hb
          · exact hh j (by omega) hjs
        · intro hh j hj hjs; exact hh j (by omega) hjs
  · refine ⟨-1, Ev.step (f := fun _ => some (-1)) (fun k => ?_) (Ev.now _), ?_⟩
    · simp only [dbus_zzIndex.l0, e1, e2]; rw [if_neg (by omega)]
    · simp only [true_iff]
      intro j h1 h2; omega

/-- How many points there are. -/
theorem pts (s : ByteArray) (hs : s.size ≤ 140737488351232) (d : Nat) : ∀ (i n : Nat), s.size - i = d → n ≤ i → i ≤ s.size → ∃ r : Nat, Ev (fun k => spec_points.l0 k s (n : Int) (i : Int)) (r : Int) ∧ n ≤ r ∧ (r = n ↔ ∀ j : Nat, i ≤ j → j < s.size → bt s j ≠ 46) := by
  induction d using Nat.strongRecOn with
  | _ d ih =>
  intro i n hd hn hi
  have e2 : wrap64 ((i : Int) + 1) = ((i + 1 : Nat) : Int) := w64 (by omega) (by omega)
  have e3 : wrap64 ((n : Int) + 1) = ((n + 1 : Nat) : Int) := w64 (by omega) (by omega)
  by_cases h : i < s.size
  · have h4 : (i : Int) < (s.size : Int) := by omega
    have h0 : (0 : Int) ≤ (i : Int) := by omega
    by_cases hb : bt s i = 46
    · obtain ⟨r, hr, hle, hi2⟩ := ih (s.size - (i + 1)) (by omega) (i + 1) (n + 1) rfl (by omega) (by omega)
      refine ⟨r, Ev.step (f := fun k => spec_points.l0 k s ((n + 1 : Nat) : Int) ((i + 1 : Nat) : Int)) (fun k => ?_) hr, by omega, ?_⟩
      · simp only [spec_points.l0, e2, e3]; rw [if_pos h4, if_pos h0, if_pos hb]
      · constructor
        · intro hh; omega
        · intro hh; exact absurd hb (hh i (Nat.le_refl _) h)
    · obtain ⟨r, hr, hle, hi2⟩ := ih (s.size - (i + 1)) (by omega) (i + 1) n rfl (by omega) (by omega)
      refine ⟨r, Ev.step (f := fun k => spec_points.l0 k s (n : Int) ((i + 1 : Nat) : Int)) (fun k => ?_) hr, hle, ?_⟩
      · simp only [spec_points.l0, e2, e3]; rw [if_pos h4, if_pos h0, if_neg hb]
      · rw [hi2]
        constructor
        · intro hh j hj hjs
          by_cases e : j = i
          · subst e; exact hb
          · exact hh j (by omega) hjs
        · intro hh j hj hjs; exact hh j (by omega) hjs
  · refine ⟨n, Ev.step (f := fun _ => some (n : Int)) (fun k => ?_) (Ev.now _), Nat.le_refl _, ?_⟩
    · simp only [spec_points.l0]; rw [if_neg (by omega)]
    · simp only [true_iff]
      intro j h1 h2; omega

/-- Of a text without points the split is the text. -/
theorem split_one (s : ByteArray) (hs : s.size ≤ 140737488351232) (d : Nat) : ∀ (i : Nat), s.size - i = d → i ≤ s.size → (∀ j : Nat, i ≤ j → j < s.size → bt s j ≠ 46) → Ev (fun k => spec_Split.l0 k s 46 [] 0 (i : Int)) [s] := by
  induction d using Nat.strongRecOn with
  | _ d ih =>
  intro i hd hi hno
  have e2 : wrap64 ((i : Int) + 1) = ((i + 1 : Nat) : Int) := w64 (by omega) (by omega)
  by_cases h : i < s.size
  · refine Ev.step (f := fun k => spec_Split.l0 k s 46 [] 0 ((i + 1 : Nat) : Int)) (fun k => ?_) (ih (s.size - (i + 1)) (by omega) (i + 1) rfl (by omega) (fun j h1 h2 => hno j (by omega) h2))
    simp only [spec_Split.l0, e2]
    rw [if_pos (by omega), if_pos (by omega), if_neg (hno i (Nat.le_refl _) h)]
  · refine Ev.step (f := fun _ => some [s]) (fun k => ?_) (Ev.now _)
    simp only [spec_Split.l0, e2]
    rw [if_neg (by omega), if_pos (by omega), if_pos (by omega), if_pos (by simp)]
    have : s.extract (0 : Int).toNat s.size = s := by
      apply bl_ext; rw [bl_extract]; show ((bl s).drop 0).take (s.size - 0) = bl s; rw [List.drop_zero]; exact List.take_of_length_le (by rw [bl_len]; omega)
    rw [this]; rfl

/-- The walk over one part's bytes. -/
theorem bytes_of (s : ByteArray) (hs : s.size ≤ 140737488351232) (L : List ByteArray) (m : Int) (q : Int) (d : Nat) : ∀ (i : Nat), s.size - i = d → i ≤ s.size →
    ((∀ j : Nat, i ≤ j → j < s.size → Mem (bt s j)) → ∀ r, Ev (fun k => spec_named.l0 k false false L m (wrap64 (q + 1))) r → Ev (fun k => spec_named.l1 k false false s (i : Int) L m q) r) ∧
    ((¬ ∀ j : Nat, i ≤ j → j < s.size → Mem (bt s j)) → Ev (fun k => spec_named.l1 k false false s (i : Int) L m q) false) := by
  induction d using Nat.strongRecOn with
  | _ d ih =>
  intro i hd hi
  have e2 : wrap64 ((i : Int) + 1) = ((i + 1 : Nat) : Int) := w64 (by omega) (by omega)
  by_cases h : i < s.size
  · obtain ⟨y, n⟩ := ih (s.size - (i + 1)) (by omega) (i + 1) rfl (by omega)
    by_cases hm : Mem (bt s i)
    · have st : ∀ k, spec_named.l1 (k + 1) false false s (i : Int) L m q = spec_named.l1 k false false s ((i + 1 : Nat) : Int) L m q := by
        intro k
        simp only [spec_named.l1, e2]
        rw [if_pos (by omega), if_pos (by omega), word_f, decide_eq_true hm]; rfl
      constructor
      · intro hh r hr
        exact Ev.step st (y (fun j h1 h2 => hh j (by omega) h2) r hr)
      · intro hh
        refine Ev.step st (n (fun q => hh (fun j h1 h2 => ?_)))
        by_cases e : j = i
        · subst e; exact hm
        · exact q j (by omega) h2
    · constructor
      · intro hh; exact absurd (hh i (Nat.le_refl _) h) hm
      · intro _
        refine Ev.step (f := fun _ => some false) (fun k => ?_) (Ev.now _)
        simp only [spec_named.l1]
        rw [if_pos (by omega), if_pos (by omega), word_f, decide_eq_false hm]; rfl
  · constructor
    · intro _ r hr
      refine Ev.step (fun k => ?_) hr
      simp only [spec_named.l1]
      rw [if_neg (by omega)]
    · intro hh; exact absurd (fun j h1 h2 => absurd h2 (by omega)) hh

end Go.Proofs.Ytcdbhpmnilfpfaa.MFnNmAllw
