-- Written by a program of this session (myprint.py, out of the translation). Not trusted: Lean checks it.
import Derived.Test.YtfipimoemhbnlaaMFnSgReplacex0
namespace Go.Proofs.Ytfipimoemhbnlaa.MFnSgReplace
open Go.RowKit Go.Proofs.YtfipimoemhbnlaaW.PrintWords Go.Proofs.YtfipimoemhbnlaaW.PrintLast Go.Proofs.YtfipimoemhbnlaaW.PrintMore
attribute [local go_sem] max2_int min2_int max_two min_two max_three min_three max_four min_four   -- for this text's walks alone
set_option linter.unusedVariables false
set_option linter.unusedSimpArgs false

/-! ### dbus_findMatching: function 27 -/
-- GIVENTEXT
def dbus_findMatching.step (c l r n : Int) : Int := if c = l then wrap64 (n + 1) else if c = r then wrap64 (n - 1) else n
def dbus_findMatching.l0 : Nat → ByteArray → Int → Int → Int → Nat → Option Int
  | 0, _, _, _, _, _ => none
  | k + 1, s, l, r, n, pos => if pos < s.size then
      (if dbus_findMatching.step ((Utf8.decode s pos).1 : Int) l r n = 0 then some (pos : Int) else dbus_findMatching.l0 k s l r (dbus_findMatching.step ((Utf8.decode s pos).1 : Int) l r n) (pos + (Utf8.decode s pos).2))
      else some (-1)
def dbus_findMatching.f (k : Nat) (a0 : ByteArray) (a1 a2 : Int) : Option Int := dbus_findMatching.l0 k a0 a1 a2 0 0
theorem dbus_findMatching.mono_l : ∀ k s l r n pos, LeO (dbus_findMatching.l0 k s l r n pos) (dbus_findMatching.l0 (k + 1) s l r n pos)
  | 0 => fun _ _ _ _ _ x h => by simp [dbus_findMatching.l0] at h
  | k + 1 => by
    intro s l r n pos
    unfold dbus_findMatching.l0
    refine LeO.ite (LeO.ite (LeO.refl _) (dbus_findMatching.mono_l k _ _ _ _ _)) (LeO.refl _)
theorem dbus_findMatching.mono : ∀ a0 a1 a2 k, LeO (dbus_findMatching.f k a0 a1 a2) (dbus_findMatching.f (k + 1) a0 a1 a2) := fun a0 a1 a2 k => dbus_findMatching.mono_l k a0 a1 a2 0 0
set_option maxHeartbeats 2000000 in
set_option maxRecDepth 100000 in
theorem dbus_findMatching.calls (k : Nat) (a0 : ByteArray) (a1 a2 : Int) (r : Int) (w : World) (h : dbus_findMatching.f k a0 a1 a2 = some r) :
    Calls Try.prog 27 #[.string a0, .int .i32 a1, .int .i32 a2] w fun e w' => e = .returned (.int .i64 r) ∧ Below w.heap.size w w' := by
  have H := Aside0.mk h
  clear h
  go_enter Try.func27, Try.ntmps27
  go_wp2
  go_loopg [7] k (fun kq v7 w' => ∃ (n : Int) (pos : Nat), v7 = .int .i64 n ∧ Aside0 (dbus_findMatching.l0 kq a0 a1 a2 n pos = some r) ∧ Aside0 (w'.heap[w.heap.size]? = some (.stringIter a0 pos)) ∧ Aside0 (Below w.heap.size w w'))
  case atStart => exact ⟨0, 0, rfl, H, ⟨World.iter_heap w a0 0⟩, ⟨(Below.refl _ _).alloc (Nat.le_refl _) _⟩⟩
  case round =>
    clear H
    obtain ⟨n, pos, rfl, HA, HI, HB⟩ := hrel
    cases gk with
    | zero => exact absurd HA.out (by simp [dbus_findMatching.l0])
    | succ k1 =>
      by_cases hp : pos < a0.size
      · have H := HA.out
        clear HA
        simp only [dbus_findMatching.l0, if_pos hp] at H
        have hnx : ∀ ty, (Instr.next (.pointer (some ⟨w.heap.size, 0, none⟩)) true ty).run Try.prog wr = _ := fun ty => Lib.run_next_any_at wr w.heap.size a0 pos ty HI.out hp
        have hit2 := Aside0.mk (Lib.iterAt_heap wr w.heap.size a0 pos (pos + (Utf8.decode a0 pos).2) HI.out)
        have hbw2 := Aside0.mk (Lib.below_iterAt HB.out (k := w.heap.size) (Nat.le_refl _) a0 (pos + (Utf8.decode a0 pos).2))
        obtain ⟨W1, hW1⟩ : ∃ W1, W1 = wr.iterAt w.heap.size a0 (pos + (Utf8.decode a0 pos).2) := ⟨_, rfl⟩
        rw [← hW1] at hnx hit2 hbw2
        clear hW1 HI HB hp
        generalize ((Utf8.decode a0 pos).1 : Int) = c at *
        by_cases h1 : c = a1
        · have h1b : (c == a1) = true := beq_iff_eq.mpr h1
          have e : dbus_findMatching.step c a1 a2 n = wrap64 (n + 1) := by simp [dbus_findMatching.step, h1]
          rw [e] at H
          clear h1 e
          by_cases h3 : wrap64 (n + 1) = 0
          · rw [if_pos h3] at H
            obtain rfl := Option.some.inj H
            have h3b : (wrap64 (n + 1) == 0) = true := beq_iff_eq.mpr h3
            clear h3 H
            go_wp2
            go_ret
            exact ⟨rfl, hbw2.out⟩
          · rw [if_neg h3] at H
            have h3b : (wrap64 (n + 1) == 0) = false := beq_eq_false_iff_ne.mpr h3
            have H' := Aside0.mk H
            clear h3 H
            go_wp2
            go_roundg k1
            case measure => omega
            case rel => exact ⟨_, _, rfl, H', hit2, hbw2⟩
        · have h1b : (c == a1) = false := beq_eq_false_iff_ne.mpr h1
          by_cases h2 : c = a2
          · have h2b : (c == a2) = true := beq_iff_eq.mpr h2
            have e : dbus_findMatching.step c a1 a2 n = wrap64 (n - 1) := by simp only [dbus_findMatching.step, if_neg h1, if_pos h2]
            rw [e] at H
            clear h1 h2 e
            by_cases h3 : wrap64 (n - 1) = 0
            · rw [if_pos h3] at H
              obtain rfl := Option.some.inj H
              have h3b : (wrap64 (n - 1) == 0) = true := beq_iff_eq.mpr h3
              clear h3 H
              go_wp2
              go_ret
              exact ⟨rfl, hbw2.out⟩
            · rw [if_neg h3] at H
              have h3b : (wrap64 (n - 1) == 0) = false := beq_eq_false_iff_ne.mpr h3
              have H' := Aside0.mk H
              clear h3 H
              go_wp2
              go_roundg k1
              case measure => omega
              case rel => exact ⟨_, _, rfl, H', hit2, hbw2⟩
          · have h2b : (c == a2) = false := beq_eq_false_iff_ne.mpr h2
            have e : dbus_findMatching.step c a1 a2 n = n := by simp only [dbus_findMatching.step, if_neg h1, if_neg h2]
            rw [e] at H
            clear h1 h2 e
            by_cases h3 : n = 0
            · rw [if_pos h3] at H
              obtain rfl := Option.some.inj H
              have h3b : (n == 0) = true := beq_iff_eq.mpr h3
              clear h3 H
              go_wp2
              go_ret
              exact ⟨rfl, hbw2.out⟩
            · rw [if_neg h3] at H
              have h3b : (n == 0) = false := beq_eq_false_iff_ne.mpr h3
              have H' := Aside0.mk H
              clear h3 H
              go_wp2
              go_roundg k1
              case measure => omega
              case rel => exact ⟨_, _, rfl, H', hit2, hbw2⟩
      · have H := HA.out
        clear HA
        simp only [dbus_findMatching.l0, if_neg hp] at H
        obtain rfl := Option.some.inj H
        clear H
        have hnx : ∀ ty, (Instr.next (.pointer (some ⟨w.heap.size, 0, none⟩)) true ty).run Try.prog wr = _ := fun ty => Lib.run_next_end_at wr w.heap.size a0 pos ty HI.out hp
        go_wp2
        go_ret
        exact ⟨rfl, HB.out⟩

end Go.Proofs.Ytfipimoemhbnlaa.MFnSgReplace
