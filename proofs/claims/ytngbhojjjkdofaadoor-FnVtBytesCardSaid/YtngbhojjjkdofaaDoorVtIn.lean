/- A byte string's text is read as the bytes that it stands for. -/
import Derived.Test.YtngbhojjjkdofaaDoorMFnVtBytesx2
import Derived.Test.YtngbhojjjkdofaaDoorMFnVtBytesx7
import Derived.Test.YtngbhojjjkdofaaDoorHlp
namespace Go.Proofs.YtngbhojjjkdofaaDoor.Pure
open Go Go.RowKit Go.Proofs.YtngbhojjjkdofaaDoor.MFnVtBytes Go.Proofs.YtngbhojjjkdofaaDoorW.PrintWords Go.Proofs.YtngbhojjjkdofaaDoorW.PrintLast Go.Proofs.YtngbhojjjkdofaaDoor.Hlp
set_option linter.unusedVariables false

theorem up1 (i : Nat) (h : i ≤ 3000000000) : wrap64 ((i : Int) + 1) = ((i + 1 : Nat) : Int) := by rw [w64 (by omega) (by omega)]; omega
/-- What stands at a place. -/
theorem at_drop {a : ByteArray} {k : Nat} {c : UInt8} {r : List UInt8} (h : (bl a).drop k = c :: r) : k < a.size ∧ bt a (k : Int) = (c.toNat : Int) ∧ (bl a).drop (k + 1) = r := by
  have hk : k < (bl a).length := by
    rcases Nat.lt_or_ge k (bl a).length with h1 | h1
    · exact h1
    · rw [List.drop_eq_nil_of_le h1] at h; cases h
  rw [List.drop_eq_getElem_cons hk] at h
  injection h with h1 h2
  exact ⟨by rwa [bl_len] at hk, by rw [bt_nat a k hk, h1], h2⟩
/-! ### Digits and escapes -/
def hexR (c : UInt8) : Int × Bool := match dig c with
  | some d => if d < 16 then ((d : Int), true) else (0, false)
  | none => (0, false)
theorem hex_fin : ∀ n : Fin 256, spec_hexDigit.f 2 ((UInt8.ofNat n.val).toNat : Int) = some (hexR (UInt8.ofNat n.val)) := by decide +kernel
theorem esc_fin : ∀ n : Fin 256, spec_escapedAs.f 8 ((UInt8.ofNat n.val).toNat : Int) = some (escOf (UInt8.ofNat n.val)) := by decide +kernel
theorem ev_of_mono {α : Type} {f : Nat → Option α} {r : α} (hm : ∀ k, LeO (f k) (f (k + 1))) {K : Nat} (h : f K = some r) : Ev f r := by
  refine ⟨K, fun n hn => ?_⟩
  obtain ⟨d, rfl⟩ : ∃ d, n = K + d := ⟨n - K, by omega⟩
  clear hn
  induction d with
  | zero => exact h
  | succ d ih => exact hm _ _ ih
theorem hex_ev (c : UInt8) : Ev (fun k => spec_hexDigit.f k (c.toNat : Int)) (hexR c) := by
  have := hex_fin ⟨c.toNat, c.toNat_lt⟩
  simp only [UInt8.ofNat_toNat] at this
  exact ev_of_mono (fun k => spec_hexDigit.mono _ k) this
theorem esc_ev (c : UInt8) : Ev (fun k => spec_escapedAs.f k (c.toNat : Int)) (escOf c) := by
  have := esc_fin ⟨c.toNat, c.toNat_lt⟩
  simp only [UInt8.ofNat_toNat] at this
  exact ev_of_mono (fun k => spec_escapedAs.mono _ k) this
theorem dig_mark {c : UInt8} {d : Nat} (h : dig c = some d) (hd : d < 16) : c ≠ 92 := by
  rintro rfl
  rw [show dig 92 = none from by decide] at h
  cases h
/-- It does not end in an escape. -/
def nd : List UInt8 → Prop
  | [] => True
  | c :: r => if c = 92 then (match r with
      | [] => False
      | _ :: r1 => nd r1) else nd r
termination_by l => l.length
theorem nd_plain {c : UInt8} (h : c ≠ 92) (r : List UInt8) : nd (c :: r) = nd r := by
  rw [nd.eq_def]
  simp [h]
theorem nd_esc (e : UInt8) (r : List UInt8) : nd (92 :: e :: r) = nd r := by
  rw [nd.eq_def]
  simp
theorem nd_end : nd [92] = False := by
  rw [nd.eq_def]
  simp
/-! ### The text between its marks -/
theorem in_loop (s m : ByteArray) (mk : UInt8) (hm : bl m = [mk]) (hmk : mk ≠ 92) (hs : s.size ≤ 2147483650) : ∀ (n : Nat) (rest : List UInt8) (i : Nat), rest.length ≤ n → (bl s).drop i = rest ++ [mk] →
    ∃ r, Ev (fun k => laws_vtInside.l0 k m s (i : Int)) (s, r) ∧ (r = true → nd rest)
  | 0, [], i, _, h => by
    obtain ⟨h1, h2, h3⟩ := at_drop (r := []) h
    have hm0 : bt m 0 = (mk.toNat : Int) := by
      have := bt_nat m 0 (by rw [hm]; simp)
      simp only [hm] at this
      exact this
    have hms : m.size = 1 := by rw [← bl_len, hm]; rfl
    refine ⟨_, Ev.step (f := fun _ => some (s, ((i : Int) == (wrap64 ((s.size : Int) - 1))))) (fun k => ?_) (Ev.now _), fun _ => by rw [nd.eq_def]; trivial⟩
    simp only [laws_vtInside.l0]
    rw [if_pos (by omega), if_pos (by omega), if_neg (by rw [h2]; intro e; exact hmk (UInt8.toNat_inj.1 (by show mk.toNat = 92; omega))), if_pos (by omega), if_pos (by rw [h2, hm0])]
  | 0, _ :: _, i, hl, h => by simp at hl
  | n + 1, [], i, _, h => in_loop s m mk hm hmk hs n [] i (Nat.zero_le _) h
  | n + 1, c :: rest, i, hl, h => by
    obtain ⟨h1, h2, h3⟩ := at_drop (r := rest ++ [mk]) h
    have hm0 : bt m 0 = (mk.toNat : Int) := by
      have := bt_nat m 0 (by rw [hm]; simp)
      simp only [hm] at this
      exact this
    have hms : m.size = 1 := by rw [← bl_len, hm]; rfl
    by_cases hc : c = 92
    · subst hc
      have e1 : wrap64 ((wrap64 ((i : Int) + 1)) + 1) = ((i + 2 : Nat) : Int) := by rw [up1 i (by omega), up1 (i + 1) (by omega)]
      match rest, hl, h3 with
      | [], _, h3 =>
        obtain ⟨g1, g2, g3⟩ := at_drop (r := []) h3
        have g4 : s.size ≤ i + 2 := by
          have := congrArg List.length g3
          rw [List.length_drop, bl_len] at this
          simp at this
          omega
        refine ⟨false, Ev.step (fun k => ?_) (Ev.step (f := fun _ => some (s, false)) (g := fun k => laws_vtInside.l0 k m s ((i + 2 : Nat) : Int)) (fun k => ?_) (Ev.now _)), fun e => by cases e⟩
        · simp only [laws_vtInside.l0]
          rw [if_pos (by omega), if_pos (by omega), if_pos (by rw [h2]; rfl), e1]
        · simp only [laws_vtInside.l0]
          rw [if_neg (by omega)]
      | e :: r2, hl, h3 =>
        obtain ⟨g1, g2, g3⟩ := at_drop (r := r2 ++ [mk]) h3
        obtain ⟨r, hr, hn⟩ := in_loop s m mk hm hmk hs n r2 (i + 2) (by simp at hl; omega) g3
        refine ⟨r, Ev.step (fun k => ?_) hr, fun er => by rw [nd_esc]; exact hn er⟩
        simp only [laws_vtInside.l0]
        rw [if_pos (by omega), if_pos (by omega), if_pos (by rw [h2]; rfl), e1]
    · have hc2 : ¬ bt s (i : Int) = 92 := by rw [h2]; intro e; exact hc (UInt8.toNat_inj.1 (by show c.toNat = 92; omega))
      by_cases hcm : c = mk
      · have hlen : i + 1 < s.size := by
          have := congrArg List.length h3
          rw [List.length_drop, bl_len] at this
          simp at this
          omega
        refine ⟨false, Ev.step (f := fun _ => some (s, false)) (fun k => ?_) (Ev.now _), fun e => by cases e⟩
        simp only [laws_vtInside.l0]
        rw [if_pos (by omega), if_pos (by omega), if_neg hc2, if_pos (by omega), if_pos (by rw [h2, hm0, hcm]), w64 (x := (s.size : Int) - 1) (by omega) (by omega)]
        rw [show ((i : Int) == (s.size : Int) - 1) = false from beq_eq_false_iff_ne.2 (by omega)]
      · obtain ⟨r, hr, hn⟩ := in_loop s m mk hm hmk hs n rest (i + 1) (by simp at hl; omega) h3
        refine ⟨r, Ev.step (fun k => ?_) hr, fun er => by rw [nd_plain hc]; exact hn er⟩
        simp only [laws_vtInside.l0]
        rw [if_pos (by omega), if_pos (by omega), if_neg hc2, if_pos (by omega), if_neg (by rw [h2, hm0]; intro e; exact hcm (UInt8.toNat_inj.1 (by omega))), up1 i (by omega)]
end Go.Proofs.YtngbhojjjkdofaaDoor.Pure
