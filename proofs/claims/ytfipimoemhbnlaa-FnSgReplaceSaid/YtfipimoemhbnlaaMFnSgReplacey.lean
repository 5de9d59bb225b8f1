/- The reference's split of a signature: into its complete types, if it is of such and of at most 255 bytes. -/
import Derived.Test.YtfipimoemhbnlaaMFnSgReplaces
namespace Go.Proofs.Ytfipimoemhbnlaa.MFnSgReplacey
open Go Go.RowKit Go.Proofs.Ytfipimoemhbnlaa.MFnSgReplace Go.Proofs.YtfipimoemhbnlaaW.PrintWords Go.Proofs.YtfipimoemhbnlaaW.PrintLast Go.Proofs.Ytfipimoemhbnlaa.Hlp Go.Proofs.Ytfipimoemhbnlaa.SgT Go.Proofs.Ytfipimoemhbnlaa.MFnSgReplaces
set_option linter.unusedVariables false

theorem good_cons {A B E : Int} {x : List UInt8} {xs : List (List UInt8)} (hx : T A B E x) (h : ∀ y ∈ xs, T A B E y) : ∀ y ∈ x :: xs, T A B E y := by
  intro y hy
  rcases List.mem_cons.mp hy with rfl | hy
  · exact hx
  · exact h y hy
theorem types_l (m : Nat) : ∀ (s : ByteArray) (acc : List ByteArray), s.size = m → m ≤ 1000 → acc.length + m ≤ 5000 → ∃ L b, Ev (fun k => spec_Types.l0 k s acc) (L, b) ∧
    ((b = true ∧ ∃ zs : List ByteArray, L = acc ++ zs ∧ (∀ x ∈ zs.map bl, T 32 32 32 x) ∧ bl s = (zs.map bl).flatten) ∨ (b = false ∧ L = [] ∧ ∀ ys : List (List UInt8), (∀ x ∈ ys, T 32 32 32 x) → bl s ≠ ys.flatten)) := by
  induction m using Nat.strongRecOn with
  | _ m ih =>
  intro s acc hm hm2 hacc
  by_cases h0 : s.size = 0
  · refine ⟨acc, true, Ev.step (f := fun _ => some (acc, true)) (fun k => ?_) (Ev.now _), .inl ⟨rfl, [], by simp, fun x h => by (cases h), ?_⟩⟩
    · simp only [spec_Types.l0]; rw [if_pos ((emp_iff s).mpr h0)]
    · exact List.eq_nil_of_length_eq_zero h0
  · obtain ⟨n, hn, h1, h2⟩ := complete s.size s (Nat.le_refl _) (by omega) 32 32 32 (by omega) (by omega) (by omega) (by omega) (by omega) (by omega)
    have hc : Ev (fun k => spec_complete.f k s) (n : Int) := Ev.bind hn (Ev.now _)
    have st : ∀ k, spec_Types.l0 (k + 1) s acc = (spec_complete.f k s).bind fun t107 => (if t107 = 0 then (some (([] : List ByteArray), false)) else (if 0 ≤ t107 then (if t107 ≤ (s.size : Int) then (if acc.length < 8796093022208 then (spec_Types.l0 k (s.extract (t107 : Int).toNat s.size) (acc ++ [s.extract 0 (t107 : Int).toNat])) else (none)) else (none)) else (none))) := by
      intro k; simp only [spec_Types.l0]; rw [if_neg (fun q => h0 ((emp_iff s).mp q))]
    by_cases hz : n = 0
    · subst hz
      refine ⟨[], false, Ev.step st (Ev.bind hc (ev_ite_pos rfl (fun _ => rfl) (Ev.now _))), .inr ⟨rfl, rfl, fun ys hys e => ?_⟩⟩
      cases ys with
      | nil => exact h0 (by rw [← bl_len, e]; rfl)
      | cons y ys =>
        have := h1 y ys.flatten (hys y List.mem_cons_self) e
        have := (hys y List.mem_cons_self).len
        omega
    · obtain ⟨h3, h4⟩ := h2 (by omega)
      obtain ⟨L, b, hL, hr⟩ := ih (s.size - n) (by omega) (s.extract n s.size) (acc ++ [s.extract 0 n]) (size_drop s n) (by omega) (by simp; omega)
      refine ⟨L, b, Ev.step st (Ev.bind hc (ev_ite_neg (by omega) (fun _ => rfl) (ev_ite_pos (by omega) (fun _ => rfl) (ev_ite_pos (by omega) (fun _ => rfl) (ev_ite_pos (by omega) (fun _ => rfl) (by rw [Int.toNat_natCast]; exact hL)))))), ?_⟩
      have et : bl (s.extract 0 n) = (bl s).take n := by rw [bl_extract]; rfl
      have es : bl s = (bl s).take n ++ (bl s).drop n := (List.take_append_drop n _).symm
      rcases hr with ⟨hb, zs, e1, e2, e3⟩ | ⟨hb, hL0, e2⟩
      · refine .inl ⟨hb, s.extract 0 n :: zs, by rw [e1]; simp, ?_, ?_⟩
        · rw [List.map_cons, et]; exact good_cons h4 e2
        · rw [List.map_cons, List.flatten_cons, ← e3, bl_drop, et]; exact es
      · refine .inr ⟨hb, hL0, fun ys hys e => ?_⟩
        cases ys with
        | nil => exact h0 (by rw [← bl_len, e]; rfl)
        | cons y ys =>
          have e4 := h1 y ys.flatten (hys y List.mem_cons_self) e
          refine e2 ys (fun x hx => hys x (List.mem_cons_of_mem _ hx)) ?_
          rw [bl_drop, e, e4]; simp
/-- Of a text that is short enough. -/
theorem types (s : ByteArray) (hs : s.size ≤ 1000000000) : ∃ L b, Ev (fun k => spec_Types.f k s) (L, b) ∧
    ((b = true ∧ s.size ≤ 255 ∧ (∀ x ∈ L.map bl, T 32 32 32 x) ∧ bl s = (L.map bl).flatten) ∨ (b = false ∧ L = [] ∧ (255 < s.size ∨ ∀ ys : List (List UInt8), (∀ x ∈ ys, T 32 32 32 x) → bl s ≠ ys.flatten))) := by
  by_cases h : (s.size : Int) > 255
  · exact ⟨[], false, ev_ite_pos h (fun _ => rfl) (Ev.now _), .inr ⟨rfl, rfl, .inl (by omega)⟩⟩
  · obtain ⟨L, b, hL, hr⟩ := types_l s.size s [] rfl (by omega) (by simp; omega)
    refine ⟨L, b, ev_ite_neg h (fun _ => rfl) hL, ?_⟩
    rcases hr with ⟨hb, zs, e1, e2, e3⟩ | ⟨hb, hL0, e2⟩
    · rw [List.nil_append] at e1; subst e1
      exact .inl ⟨hb, by omega, e2, e3⟩
    · exact .inr ⟨hb, hL0, .inr e2⟩
/-- One complete type alone splits so in one way: the two lists of types of one text are the same. -/
theorem types_eq : ∀ (xs ys : List (List UInt8)), (∀ x ∈ xs, T 32 32 32 x) → (∀ y ∈ ys, T 32 32 32 y) → xs.flatten.length ≤ 100000 → xs.flatten = ys.flatten → xs = ys
  | [], [], _, _, _, _ => rfl
  | [], y :: ys, _, hy, _, e => by
    have := (hy y List.mem_cons_self).len
    have h2 := congrArg List.length e
    simp only [List.flatten_nil, List.flatten_cons, List.length_nil, List.length_append] at h2; omega
  | x :: xs, [], hx, _, _, e => by
    have := (hx x List.mem_cons_self).len
    have h2 := congrArg List.length e
    simp only [List.flatten_nil, List.flatten_cons, List.length_nil, List.length_append] at h2; omega
  | x :: xs, y :: ys, hx, hy, hl, e => by
    let s : ByteArray := ⟨((x :: xs).flatten).toArray⟩
    have hb : bl s = (x :: xs).flatten := by simp [s, bl]
    have hs : s.size ≤ 1000000000 := by rw [← bl_len, hb]; omega
    obtain ⟨n, _, h1, _⟩ := complete s.size s (Nat.le_refl _) hs 32 32 32 (by omega) (by omega) (by omega) (by omega) (by omega) (by omega)
    have e1 := h1 x xs.flatten (hx x List.mem_cons_self) hb
    have e2 := h1 y ys.flatten (hy y List.mem_cons_self) (by rw [hb, e]; rfl)
    simp only [List.flatten_cons] at e
    have e3 : x = y := by
      have h3 := congrArg (List.take x.length) e
      rw [List.take_left, show x.length = y.length by omega, List.take_left] at h3
      exact h3
    subst e3
    have e4 := List.append_cancel_left e
    rw [types_eq xs ys (fun z hz => hx z (List.mem_cons_of_mem _ hz)) (fun z hz => hy z (List.mem_cons_of_mem _ hz)) (by simp only [List.flatten_cons, List.length_append] at hl; omega) e4]
end Go.Proofs.Ytfipimoemhbnlaa.MFnSgReplacey
