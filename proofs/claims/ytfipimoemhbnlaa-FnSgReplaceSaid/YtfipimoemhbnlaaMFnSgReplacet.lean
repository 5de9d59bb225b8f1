/- The package's reader of complete types comes to an end at every text, leaves less than there was, and takes, of a text without "()" and "{v", complete types alone. -/
import Derived.Test.YtfipimoemhbnlaaMFnSgReplacei
namespace Go.Proofs.Ytfipimoemhbnlaa.MFnSgReplacet
open Go Go.RowKit Go.Proofs.Ytfipimoemhbnlaa.MFnSgReplace Go.Proofs.YtfipimoemhbnlaaW.PrintWords Go.Proofs.YtfipimoemhbnlaaW.PrintLast Go.Proofs.Ytfipimoemhbnlaa.Hlp Go.Proofs.Ytfipimoemhbnlaa.SgT Go.Proofs.Ytfipimoemhbnlaa.MFnSgReplacei
set_option linter.unusedVariables false

/-- A text without "()" and "{v". -/
def NP (l : List UInt8) : Prop := ∀ p q, l ≠ p ++ 40 :: 41 :: q ∧ l ≠ p ++ 123 :: 118 :: q
theorem NP.mid {a b c : List UInt8} (h : NP (a ++ b ++ c)) : NP b := by
  intro p q
  refine ⟨fun e => (h (a ++ p) (q ++ c)).1 ?_, fun e => (h (a ++ p) (q ++ c)).2 ?_⟩
  · rw [e]; simp
  · rw [e]; simp
theorem NP.tail {c : UInt8} {b : List UInt8} (h : NP (c :: b)) : NP b := NP.mid (a := [c]) (b := b) (c := []) (by simpa using h)
theorem NP.pre {b c : List UInt8} (h : NP (b ++ c)) : NP b := NP.mid (a := []) (b := b) (c := c) (by simpa using h)
theorem NP.suf {a b : List UInt8} (h : NP (a ++ b)) : NP b := NP.mid (a := a) (b := b) (c := []) (by simpa using h)

/-- What the reader comes to. -/
def Res (s : ByteArray) (a t d : Int) (e : Option (TypeId × Value)) (rem : ByteArray) : Prop :=
  (e = none → rem.size < s.size) ∧ (e = none → NP (bl s) → ∃ x, T (32 - a) (32 - t) (32 - d) x ∧ bl s = x ++ bl rem)
theorem Res.err {s : ByteArray} {a t d : Int} {v : TypeId × Value} {rem : ByteArray} : Res s a t d (some v) rem := ⟨fun h => by (cases h), fun h => by (cases h)⟩
def Tot (N : Nat) : Prop := ∀ s : ByteArray, s.size ≤ N → s.size ≤ 1000000000 → ∀ a t d : Int, 0 ≤ a → a ≤ 1000 → 0 ≤ t → t ≤ 1000 → 0 ≤ d → d ≤ 1000 → ∃ e rem, Ev (fun k => dbus_validSingle.g k s a t d) (e, rem) ∧ Res s a t d e rem
theorem isSome_err (v : TypeId × Value) : (some v).isSome = true := rfl
theorem ok_le {a t d : Int} (h : dbus_validSingle.ok a t d = true) : a ≤ 32 ∧ t ≤ 32 ∧ d ≤ 32 := by
  simpa [dbus_validSingle.ok, and_assoc] using h

/-- The fields of a struct. -/
theorem fields (N : Nat) (ih : Tot N) (r : ByteArray) (a t d : Int) (ha : 0 ≤ a) (ha2 : a ≤ 32) (ht : 0 ≤ t) (ht2 : t ≤ 32) (hd : 0 ≤ d) (hd2 : d ≤ 32) (m : Nat) : ∀ u : ByteArray, u.size = m → u.size ≤ N → u.size ≤ 1000000000 →
    ∃ e rem, Ev (fun k => dbus_validSingle.l k none u r a t d) (e, rem) ∧ (e = none → rem = r) ∧ (e = none → NP (bl u) → ∃ xs : List (List UInt8), (∀ x ∈ xs, T (32 - a) (32 - t - 1) (32 - d) x) ∧ bl u = xs.flatten) := by
  induction m using Nat.strongRecOn with
  | _ m ihm =>
  intro u hu hN hs
  by_cases h0 : u.size = 0
  · refine ⟨none, r, Ev.step (f := fun _ => some (none, r)) (fun k => l_nil k h0 r a t d) (Ev.now _), fun _ => rfl, fun _ _ => ⟨[], fun x h => by (cases h), ?_⟩⟩
    exact List.eq_nil_of_length_eq_zero h0
  obtain ⟨e, rem, he, hr⟩ := ih u hN hs a (t + 1) d ha (by omega) (by omega) (by omega) hd (by omega)
  cases e with
  | some v =>
    refine ⟨some v, ⟨#[]⟩, Ev.step (fun k => l_more k h0 r a t d) ?_, fun h => by (cases h), fun h => by (cases h)⟩
    rw [w64 (x := t + 1) (by omega) (by omega)]
    refine Ev.bind he (Ev.step (f := fun _ => some (some v, ⟨#[]⟩)) (fun k => ?_) (Ev.now _))
    simp only [dbus_validSingle.l]; exact if_pos rfl
  | none =>
    have hlt := hr.1 rfl
    obtain ⟨e2, rem2, he2, h3, h4⟩ := ihm rem.size (by omega) rem rfl (by omega) (by omega)
    refine ⟨e2, rem2, Ev.step (fun k => l_more k h0 r a t d) ?_, h3, fun hn hp => ?_⟩
    · rw [w64 (x := t + 1) (by omega) (by omega)]
      exact Ev.bind he he2
    · obtain ⟨x, hx, hb⟩ := hr.2 rfl hp
      rw [hb] at hp
      obtain ⟨xs, hxs, hb2⟩ := h4 hn hp.suf
      refine ⟨x :: xs, fun y hy => ?_, by rw [hb, hb2]; rfl⟩
      rcases List.mem_cons.mp hy with rfl | hy
      · rw [show 32 - t - 1 = 32 - (t + 1) by omega]; exact hx
      · exact hxs y hy

theorem one_of {A B E : Int} {x q : List UInt8} {c : UInt8} (tt : T A B E x) (h : [c] = x ++ q) : oneC c = true := by
  obtain ⟨_, _, _, hh⟩ := tt.cases
  rcases hh with ⟨c', hc, rfl⟩ | ⟨y, hy, rfl⟩ | ⟨c', y, hc, hy, rfl⟩ | ⟨xs, hn, hx, rfl⟩
  · simp at h; rw [h.1]; exact hc
  · have := hy.len
    have h2 := congrArg List.length h
    simp only [List.length_append, List.length_cons, List.length_nil] at h2; omega
  · have h2 := congrArg List.length h
    simp only [List.length_append, List.length_cons, List.length_nil] at h2; omega
  · have h2 := congrArg List.length h
    simp only [List.length_append, List.length_cons, List.length_nil] at h2; omega

set_option maxHeartbeats 1000000 in
theorem tot (N : Nat) : Tot N := by
  induction N with
  | zero =>
    intro s h0 hs a t d _ _ _ _ _ _
    refine ⟨_, _, Ev.step (f := fun _ => some (dbus_validSingle.er s ⟨#[101, 109, 112, 116, 121, 32, 115, 105, 103, 110, 97, 116, 117, 114, 101]⟩, ⟨#[]⟩)) (fun k => ?_) (Ev.now _), Res.err⟩
    simp only [dbus_validSingle.g]; rw [if_pos (by omega)]
  | succ N ih =>
    intro s hN hs a t d ha ha2 ht ht2 hd hd2
    cases hb : bl s with
    | nil =>
      have h0 : s.size = 0 := by rw [← bl_len, hb]; rfl
      refine ⟨_, _, Ev.step (f := fun _ => some (dbus_validSingle.er s ⟨#[101, 109, 112, 116, 121, 32, 115, 105, 103, 110, 97, 116, 117, 114, 101]⟩, ⟨#[]⟩)) (fun k => ?_) (Ev.now _), Res.err⟩
      simp only [dbus_validSingle.g]; rw [if_pos h0]
    | cons c q =>
      have hlen : s.size = q.length + 1 := by rw [← bl_len, hb]; simp
      cases hok : dbus_validSingle.ok a t d with
      | false =>
        refine ⟨_, _, Ev.step (f := fun _ => some (dbus_validSingle.er s ⟨#[99, 111, 110, 116, 97, 105, 110, 101, 114, 32, 110, 101, 115, 116, 105, 110, 103, 32, 116, 111, 111, 32, 100, 101, 101, 112]⟩, ⟨#[]⟩)) (fun k => ?_) (Ev.now _), Res.err⟩
        simp only [dbus_validSingle.g]; rw [if_neg (by omega), hok, if_pos rfl]
      | true =>
        obtain ⟨o1, o2, o3⟩ := ok_le hok
        cases hoc : oneC c with
        | true =>
          refine ⟨_, _, g_one hb hoc o1 o2 o3, fun _ => by rw [size_drop]; omega, fun _ _ => ⟨[c], T.one (by omega) (by omega) (by omega) hoc, ?_⟩⟩
          rw [bl_drop, hb]; rfl
        | false =>
          by_cases h97 : c = 97
          · subst h97
            by_cases hq : ∃ r, q = 123 :: r
            · obtain ⟨r, rfl⟩ := hq
              simp only [List.length_cons] at hlen
              have hb1 : bl (s.extract 1 s.size) = 123 :: r := by rw [bl_drop, hb]; rfl
              obtain ⟨i, hi, hi2⟩ := search0 (l := 123) (r := 125) (by decide) (by decide) (by decide) (s.extract 1 s.size) (by rw [size_drop]; omega) hb1
              have up : ∀ v, Ev (fun k => dbus_validSingle.dict k s a t d i) v → Ev (fun k => dbus_validSingle.g k s a t d) v :=
                fun v h => Ev.step (fun k => g_dict hb o1 o2 o3 k) (Ev.bind (a := i) hi h)
              rcases hi2 with hi2 | ⟨j, z, rfl, hj1, hj2, hj3⟩
              · refine ⟨_, _, up _ (Ev.step (f := fun _ => some (dbus_validSingle.er s ⟨#[117, 110, 109, 97, 116, 99, 104, 101, 100, 32, 39, 123, 39]⟩, ⟨#[]⟩)) (fun k => ?_) (Ev.now _)), Res.err⟩
                simp only [dbus_validSingle.dict]; rw [if_pos hi2]
              · rw [size_drop] at hj2
                rw [bl_drop, List.drop_drop] at hj3
                have e1 : ((j : Int) + 1).toNat = j + 1 := by omega
                have e2 : ((j : Int) + 1 + 1).toNat = j + 2 := by omega
                have hu : bl (s.extract 2 (j + 1)) = ((bl s).drop 2).take (j - 1) := by rw [bl_extract]; congr 1
                have hus : (s.extract 2 (j + 1)).size = j - 1 := by rw [← bl_len, hu, List.length_take, List.length_drop, bl_len]; omega
                have cut : bl s = 97 :: 123 :: (bl (s.extract 2 (j + 1)) ++ 125 :: bl (s.extract (j + 2) s.size)) := by
                  have h5 : (bl s).drop (j + 1) = 125 :: (bl s).drop (j + 2) := by
                    rw [show j + 1 = 1 + j by omega, hj3, ← drop_succ hj3]
                    congr 2; omega
                  have h6 : (bl s).drop 2 = ((bl s).drop 2).take (j - 1) ++ ((bl s).drop 2).drop (j - 1) := (List.take_append_drop _ _).symm
                  rw [List.drop_drop, show 2 + (j - 1) = j + 1 by omega, h5] at h6
                  rw [hu, bl_drop, ← h6, hb]; rfl
                have dq : ∀ k, dbus_validSingle.dict (k + 1) s a t d (j : Int) = if (s.extract 2 (j + 1)).size = 0 then some (dbus_validSingle.er (s.extract 2 (j + 1)) ⟨#[101, 109, 112, 116, 121, 32, 100, 105, 99, 116]⟩, ⟨#[]⟩)
                    else (dbus_validSingle.g k ((s.extract 2 (j + 1)).extract 0 1) (a + 1) t (d + 1)).bind fun x =>
                      if x.1.isSome = true then some (x.1, ⟨#[]⟩) else
                      (dbus_validSingle.g k ((s.extract 2 (j + 1)).extract 1 (s.extract 2 (j + 1)).size) (a + 1) t (d + 1)).bind fun y =>
                      if y.1.isSome = true then some (y.1, ⟨#[]⟩) else
                      if y.2.size = 0 then some (none, s.extract (j + 2) s.size)
                      else some (dbus_validSingle.er (s.extract 2 (j + 1)) ⟨#[116, 111, 111, 32, 109, 97, 110, 121, 32, 116, 121, 112, 101, 115, 32, 105, 110, 32, 100, 105, 99, 116]⟩, ⟨#[]⟩) := by
                  intro k
                  simp only [dbus_validSingle.dict]
                  rw [if_neg (by omega), if_pos ⟨by omega, by omega, by omega⟩, e1, e2, w64 (x := a + 1) (by omega) (by omega), w64 (x := d + 1) (by omega) (by omega)]
                by_cases hu0 : (s.extract 2 (j + 1)).size = 0
                · exact ⟨_, _, up _ (Ev.step dq (ev_ite_pos hu0 (fun _ => rfl) (Ev.now _))), Res.err⟩
                · obtain ⟨c2, r2, hcu⟩ : ∃ c2 r2, bl (s.extract 2 (j + 1)) = c2 :: r2 := by
                    cases h : bl (s.extract 2 (j + 1)) with
                    | nil => exact absurd (by rw [← bl_len, h]; rfl) hu0
                    | cons c2 r2 => exact ⟨c2, r2, rfl⟩
                  have hk : bl ((s.extract 2 (j + 1)).extract 0 1) = [c2] := by rw [bl_extract, hcu]; rfl
                  have hv : bl ((s.extract 2 (j + 1)).extract 1 (s.extract 2 (j + 1)).size) = r2 := by rw [bl_drop, hcu]; rfl
                  have hks : ((s.extract 2 (j + 1)).extract 0 1).size = 1 := by rw [← bl_len, hk]; rfl
                  have hr2 : r2.length + 1 = j - 1 := by rw [← hus, ← bl_len, hcu]; rfl
                  have hvs : ((s.extract 2 (j + 1)).extract 1 (s.extract 2 (j + 1)).size).size = r2.length := by rw [← bl_len, hv]
                  obtain ⟨e1', m1, g1, q1⟩ := ih ((s.extract 2 (j + 1)).extract 0 1) (by omega) (by omega) (a + 1) t (d + 1) (by omega) (by omega) ht ht2 (by omega) (by omega)
                  cases e1' with
                  | some v => exact ⟨_, _, up _ (Ev.step dq (ev_ite_neg hu0 (fun _ => rfl) (Ev.bind g1 (ev_ite_pos (isSome_err v) (fun _ => rfl) (Ev.now _))))), Res.err⟩
                  | none =>
                    obtain ⟨e2', m2, g2, q2⟩ := ih ((s.extract 2 (j + 1)).extract 1 (s.extract 2 (j + 1)).size) (by omega) (by omega) (a + 1) t (d + 1) (by omega) (by omega) ht ht2 (by omega) (by omega)
                    cases e2' with
                    | some v => exact ⟨_, _, up _ (Ev.step dq (ev_ite_neg hu0 (fun _ => rfl) (Ev.bind g1 (ev_ite_neg (show ¬ (false = true) by decide) (fun _ => rfl) (Ev.bind g2 (ev_ite_pos (isSome_err v) (fun _ => rfl) (Ev.now _))))))), Res.err⟩
                    | none =>
                      by_cases hm : m2.size = 0
                      · refine ⟨none, s.extract (j + 2) s.size, up _ (Ev.step dq (ev_ite_neg hu0 (fun _ => rfl) (Ev.bind g1 (ev_ite_neg (show ¬ (false = true) by decide) (fun _ => rfl) (Ev.bind g2 (ev_ite_neg (show ¬ (false = true) by decide) (fun _ => rfl) (ev_ite_pos hm (fun _ => rfl) (Ev.now _)))))))), fun _ => by rw [size_drop]; omega, fun _ hp => ?_⟩
                        rw [cut, hcu] at hp
                        have hp2 : NP (c2 :: r2) := NP.mid (a := [97, 123]) (b := c2 :: r2) (c := 125 :: bl (s.extract (j + 2) s.size)) (by simpa using hp)
                        obtain ⟨x1, t1, b1⟩ := q1.2 rfl (by rw [hk]; exact NP.pre (b := [c2]) (c := r2) hp2)
                        rw [hk] at b1
                        have o := one_of t1 b1
                        have hbc : basicC c2 = true := by
                          by_cases h118 : c2 = 118
                          · exact absurd (by rw [h118]; rfl) (hp [97] (r2 ++ 125 :: bl (s.extract (j + 2) s.size))).2
                          · have : (c2 == 118) = false := beq_eq_false_iff_ne.mpr h118
                            simpa [oneC, this] using o
                        obtain ⟨x2, t2, b2⟩ := q2.2 rfl (by rw [hv]; exact hp2.tail)
                        have hm2 : bl m2 = [] := List.eq_nil_of_length_eq_zero hm
                        rw [hv, hm2, List.append_nil] at b2
                        refine ⟨97 :: 123 :: c2 :: (r2 ++ [125]), T.dict (by omega) (by omega) (by omega) hbc ?_, by rw [cut, hcu]; simp⟩
                        rw [b2, show 32 - a - 1 = 32 - (a + 1) by omega, show 32 - d - 1 = 32 - (d + 1) by omega]
                        exact t2
                      · exact ⟨_, _, up _ (Ev.step dq (ev_ite_neg hu0 (fun _ => rfl) (Ev.bind g1 (ev_ite_neg (show ¬ (false = true) by decide) (fun _ => rfl) (Ev.bind g2 (ev_ite_neg (show ¬ (false = true) by decide) (fun _ => rfl) (ev_ite_neg hm (fun _ => rfl) (Ev.now _)))))))), Res.err⟩
            · obtain ⟨e, rem, he, hr⟩ := ih (s.extract 1 s.size) (by rw [size_drop]; omega) (by rw [size_drop]; omega) (a + 1) t d (by omega) (by omega) ht ht2 hd hd2
              refine ⟨e, rem, Ev.step (fun k => g_arr hb (fun r e => hq ⟨r, e⟩) o1 o2 o3 k) ?_, fun h => ?_, fun h hp => ?_⟩
              · rw [w64 (x := a + 1) (by omega) (by omega)]; exact he
              · have := hr.1 h
                rw [size_drop] at this; omega
              · have hb1 : bl (s.extract 1 s.size) = q := by rw [bl_drop, hb]; rfl
                rw [hb] at hp
                obtain ⟨x, tx, hx⟩ := hr.2 h (by rw [hb1]; exact hp.tail)
                rw [hb1] at hx
                refine ⟨97 :: x, T.arr (by omega) (by omega) (by omega) ?_, by rw [hb, hx]; rfl⟩
                rw [show 32 - a - 1 = 32 - (a + 1) by omega]; exact tx
          · by_cases h40 : c = 40
            · subst h40
              obtain ⟨i, hi, hi2⟩ := search0 (l := 40) (r := 41) (by decide) (by decide) (by decide) s hs hb
              have up : ∀ v, Ev (fun k => dbus_validSingle.open k s a t d i) v → Ev (fun k => dbus_validSingle.g k s a t d) v :=
                fun v h => Ev.step (fun k => g_open hb o1 o2 o3 k) (Ev.bind (a := i) hi h)
              rcases hi2 with hi2 | ⟨j, z, rfl, hj1, hj2, hj3⟩
              · refine ⟨_, _, up _ (Ev.step (f := fun _ => some (dbus_validSingle.er s ⟨#[117, 110, 109, 97, 116, 99, 104, 101, 100, 32, 39, 41, 39]⟩, ⟨#[]⟩)) (fun k => ?_) (Ev.now _)), Res.err⟩
                simp only [dbus_validSingle.open]; rw [if_pos hi2]
              · have hu : bl (s.extract 1 j) = ((bl s).drop 1).take (j - 1) := bl_extract s 1 j
                have hus : (s.extract 1 j).size = j - 1 := by rw [← bl_len, hu, List.length_take, List.length_drop, bl_len]; omega
                have cut : bl s = 40 :: (bl (s.extract 1 j) ++ 41 :: bl (s.extract (j + 1) s.size)) := by
                  have h6 : (bl s).drop 1 = ((bl s).drop 1).take (j - 1) ++ ((bl s).drop 1).drop (j - 1) := (List.take_append_drop _ _).symm
                  rw [List.drop_drop, show 1 + (j - 1) = j by omega, hj3, ← drop_succ hj3] at h6
                  rw [hu, bl_drop, ← h6, hb]; rfl
                obtain ⟨e, rem, he, h3, h4⟩ := fields N ih (s.extract (j + 1) s.size) a t d ha o1 ht o2 hd o3 (s.extract 1 j).size (s.extract 1 j) rfl (by omega) (by omega)
                refine ⟨e, rem, up _ (Ev.step (fun k => ?_) he), fun h => ?_, fun h hp => ?_⟩
                · simp only [dbus_validSingle.open]
                  rw [if_neg (by omega), if_pos ⟨by omega, by omega, by omega⟩, Int.toNat_natCast, show ((j : Int) + 1).toNat = j + 1 by omega]
                · rw [h3 h, size_drop]; omega
                · rw [cut] at hp
                  obtain ⟨xs, hxs, hx⟩ := h4 h (NP.mid (a := [40]) (b := bl (s.extract 1 j)) (c := 41 :: bl (s.extract (j + 1) s.size)) (by simpa using hp))
                  refine ⟨40 :: (xs.flatten ++ [41]), T.str (by omega) (by omega) (by omega) (fun hn => ?_) hxs, by rw [cut, hx, h3 h]; simp⟩
                  rw [hn] at hx
                  rw [hx] at hp
                  exact (hp [] (bl (s.extract (j + 1) s.size))).1 rfl
            · refine ⟨_, _, Ev.step (f := fun _ => some (dbus_validSingle.er s ⟨#[105, 110, 118, 97, 108, 105, 100, 32, 116, 121, 112, 101, 32, 99, 104, 97, 114, 97, 99, 116, 101, 114]⟩, ⟨#[]⟩)) (fun k => ?_) (Ev.now _), Res.err⟩
              simp only [dbus_validSingle.g]
              rw [if_neg (by omega), hok, if_neg (by decide), bt_cons hb, simple_f, hoc, if_neg (by decide), if_neg (show ¬ (c.toNat : Int) = 97 from fun z => h97 ((num_eq 97).mp z)), if_neg (show ¬ (c.toNat : Int) = 40 from fun z => h40 ((num_eq 40).mp z))]
end Go.Proofs.Ytfipimoemhbnlaa.MFnSgReplacet
