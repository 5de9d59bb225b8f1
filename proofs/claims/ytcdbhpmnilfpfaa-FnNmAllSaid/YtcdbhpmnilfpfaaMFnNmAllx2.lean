-- Written by a program of this session (myprint.py, out of the translation). Not trusted: Lean checks it.
import Derived.Test.YtcdbhpmnilfpfaaMFnNmAllx0
import Derived.Test.YtcdbhpmnilfpfaaMFnNmAllx1
namespace Go.Proofs.Ytcdbhpmnilfpfaa.MFnNmAll
open Go.RowKit Go.Proofs.YtcdbhpmnilfpfaaW.PrintWords Go.Proofs.YtcdbhpmnilfpfaaW.PrintLast Go.Proofs.YtcdbhpmnilfpfaaW.PrintMore
attribute [local go_sem] max2_int min2_int max_two min_two max_three min_three max_four min_four   -- for this text's walks alone
set_option linter.unusedVariables false
set_option linter.unusedSimpArgs false

/-! ### dbus_isValidMember: function 18 -/
-- GIVENTEXT
def dbus_isValidMember.l : Nat → ByteArray → Nat → Option Bool
  | 0, _, _ => none
  | k + 1, s, pos => if pos < s.size then ((dbus_isMemberChar.f ((Utf8.decode s pos).1 : Int)).bind fun t => if t = true then dbus_isValidMember.l k s (pos + (Utf8.decode s pos).2) else some false) else some true
def dbus_isValidMember.f (k : Nat) (a0 : ByteArray) : Option Bool :=
  if a0.size = 0 then some false
  else if 255 < a0.size then some false
  else (dbus_zzIndex.f k a0 ⟨#[46]⟩).bind fun i => if i = -1 then (if 48 ≤ bt a0 0 then (if bt a0 0 ≤ 57 then some false else dbus_isValidMember.l k a0 0) else dbus_isValidMember.l k a0 0) else some false
theorem dbus_isValidMember.mono_l : ∀ k s p, LeO (dbus_isValidMember.l k s p) (dbus_isValidMember.l (k + 1) s p)
  | 0 => fun _ _ r h => by simp [dbus_isValidMember.l] at h
  | k + 1 => by
    intro s p
    unfold dbus_isValidMember.l
    exact LeO.ite (LeO.bind (LeO.refl _) (fun _ => LeO.ite (dbus_isValidMember.mono_l k _ _) (LeO.refl _))) (LeO.refl _)
theorem dbus_isValidMember.mono : ∀ a0 k, LeO (dbus_isValidMember.f k a0) (dbus_isValidMember.f (k + 1) a0) := by
  intro a0 k
  exact LeO.ite (LeO.refl _) (LeO.ite (LeO.refl _) (LeO.bind (dbus_zzIndex.mono _ _ _) (fun _ => LeO.ite (LeO.ite (LeO.ite (LeO.refl _) (dbus_isValidMember.mono_l k _ _)) (dbus_isValidMember.mono_l k _ _)) (LeO.refl _))))

set_option maxHeartbeats 2000000 in
set_option maxRecDepth 100000 in
theorem dbus_isValidMember.calls (k : Nat) (a0 : ByteArray) (r : Bool) (w : World) (h : dbus_isValidMember.f k a0 = some r) :
    Calls Try.prog 18 #[.string a0] w fun e w' => e = .returned (.bool r) ∧ Below w.heap.size w w' := by
  have HB := Aside0.mk (Below.refl w.heap.size w)
  unfold dbus_isValidMember.f at h
  by_cases c1 : a0.size = 0
  · rw [if_pos c1] at h
    obtain rfl := Option.some.inj h
    have b1 : ((a0.size : Int) == 0) = true := by rw [beq_iff_eq]; omega
    clear c1 h
    go_enter Try.func18, Try.ntmps18
    go_wp2
    go_ret
    exact ⟨rfl, by repeat (first | (with_reducible first | exact HB.out | apply below_alloc | apply pw_below_drewN | apply below_drew1) | exact HB.out)⟩
  rw [if_neg c1] at h
  have b1 : ((a0.size : Int) == 0) = false := by rw [beq_eq_false_iff_ne]; omega
  by_cases c2 : 255 < a0.size
  · rw [if_pos c2] at h
    obtain rfl := Option.some.inj h
    have b2 : decide ((255 : Int) < (a0.size : Int)) = true := decide_eq_true (by omega)
    have b3 : decide (255 < a0.size) = true := decide_eq_true c2
    clear c1 c2 h
    go_enter Try.func18, Try.ntmps18
    go_wp2
    go_ret
    exact ⟨rfl, by repeat (first | (with_reducible first | exact HB.out | apply below_alloc | apply pw_below_drewN | apply below_drew1) | exact HB.out)⟩
  rw [if_neg c2] at h
  have b2 : decide ((255 : Int) < (a0.size : Int)) = false := decide_eq_false (by omega)
  have b3 : decide (255 < a0.size) = false := decide_eq_false c2
  have h' := Option.bind_eq_some_iff.mp h
  clear h
  obtain ⟨i, hi, h⟩ := h'
  have HI := Aside0.mk hi
  clear hi
  by_cases c3 : i = -1
  · rw [if_pos c3] at h
    have b4 : (i != -1) = false := by rw [bne_eq_false_iff_eq]; exact c3
    have q14 : 0 < a0.size := by omega
    have hx14 : ∀ h : 0 < a0.size, ((a0[0]'h).toNat : Int) = bt a0 0 := bt_at a0 0
    have qi14 : (0 < (a0.size : Int)) = True := eq_true (by omega)
    replace q14 := eq_true q14
    clear c1 c2 c3
    by_cases c5 : 48 ≤ bt a0 0
    · rw [if_pos c5] at h
      have b5 : decide (48 ≤ bt a0 0) = true := decide_eq_true c5
      by_cases c6 : bt a0 0 ≤ 57
      · rw [if_pos c6] at h
        have b6 : decide (bt a0 0 ≤ 57) = true := decide_eq_true c6
        obtain rfl := Option.some.inj h
        clear h c5 c6
        go_enter Try.func18, Try.ntmps18
        go_wp2_with (first | (go_at_call 23; (with_reducible refine (dbus_zzIndex.calls k a0 ⟨#[46]⟩ i _ HI.out).mono ?_); rintro e w' ⟨rfl, ⟨nd, rfl⟩⟩))
        go_ret
        exact ⟨rfl, by repeat (first | (with_reducible first | exact HB.out | apply below_alloc | apply pw_below_drewN | apply below_drew1) | exact HB.out)⟩
      · rw [if_neg c6] at h
        have b6 : decide (bt a0 0 ≤ 57) = false := decide_eq_false c6
        have HL := Aside0.mk h
        clear h c5 c6
        go_enter Try.func18, Try.ntmps18
        go_wp2_with (first | (go_at_call 23; (with_reducible refine (dbus_zzIndex.calls k a0 ⟨#[46]⟩ i _ HI.out).mono ?_); rintro e w' ⟨rfl, ⟨nd, rfl⟩⟩))
        go_loopg [] k (fun kq w' => ∃ (pos : Nat), Aside0 (dbus_isValidMember.l kq a0 pos = some r) ∧ Aside0 (w'.heap[w.heap.size]? = some (.stringIter a0 pos)) ∧ Aside0 (Below w.heap.size w w'))
        case atStart => exact ⟨0, HL, ⟨World.iter_heap (w.drewN nd) a0 0⟩, ⟨below_alloc (pw_below_drewN HB.out nd) _⟩⟩
        case round =>
          clear HL HB HI
          obtain ⟨pos, HL, HI, HB⟩ := hrel
          cases gk with
          | zero => exact absurd HL.out (by simp [dbus_isValidMember.l])
          | succ k2 =>
          have h := HL.out
          clear HL
          by_cases hp : pos < a0.size
          · simp only [dbus_isValidMember.l, if_pos hp] at h
            have h' := Option.bind_eq_some_iff.mp h
            clear h
            obtain ⟨t, ht, h⟩ := h'
            have HT := Aside0.mk ht
            have hnx : ∀ ty, (Instr.next (.pointer (some ⟨w.heap.size, 0, none⟩)) true ty).run Try.prog wr = _ := fun ty => Lib.run_next_any_at wr w.heap.size a0 pos ty HI.out hp
            have hit2 := Aside0.mk (Lib.iterAt_heap wr w.heap.size a0 pos (pos + (Utf8.decode a0 pos).2) HI.out)
            have hbw2 := Aside0.mk (Lib.below_iterAt HB.out (k := w.heap.size) (Nat.le_refl _) a0 (pos + (Utf8.decode a0 pos).2))
            obtain ⟨W1, hW1⟩ : ∃ W1, W1 = wr.iterAt w.heap.size a0 (pos + (Utf8.decode a0 pos).2) := ⟨_, rfl⟩
            rw [← hW1] at hnx hit2 hbw2
            clear hW1 HI HB hp ht
            have HB := hbw2
            clear hbw2
            generalize ((Utf8.decode a0 pos).1 : Int) = c at *
            cases t with
            | true =>
              simp only [if_true] at h
              have HL := Aside0.mk h
              clear h
              go_wp2_with (first | (go_at_call 21; (with_reducible refine (dbus_isMemberChar.calls c true _ HT.out).mono ?_); rintro e w' ⟨rfl, ⟨nd2, rfl⟩⟩))
              go_roundg k2
              case measure => omega
              case rel => exact ⟨_, HL, ⟨hit2.out⟩, ⟨by repeat (first | (with_reducible first | exact HB.out | apply below_alloc | apply pw_below_drewN | apply below_drew1) | exact HB.out)⟩⟩
            | false =>
              simp only [Bool.false_eq_true, if_false] at h
              obtain rfl := Option.some.inj h
              clear h
              go_wp2_with (first | (go_at_call 21; (with_reducible refine (dbus_isMemberChar.calls c false _ HT.out).mono ?_); rintro e w' ⟨rfl, ⟨nd2, rfl⟩⟩))
              go_ret
              exact ⟨rfl, by repeat (first | (with_reducible first | exact HB.out | apply below_alloc | apply pw_below_drewN | apply below_drew1) | exact HB.out)⟩
          · simp only [dbus_isValidMember.l, if_neg hp] at h
            obtain rfl := Option.some.inj h
            clear h
            have hnx : ∀ ty, (Instr.next (.pointer (some ⟨w.heap.size, 0, none⟩)) true ty).run Try.prog wr = _ := fun ty => Lib.run_next_end_at wr w.heap.size a0 pos ty HI.out hp
            go_wp2
            go_ret
            exact ⟨rfl, by repeat (first | (with_reducible first | exact HB.out | apply below_alloc | apply pw_below_drewN | apply below_drew1) | exact HB.out)⟩
    · rw [if_neg c5] at h
      have b5 : decide (48 ≤ bt a0 0) = false := decide_eq_false c5
      have HL := Aside0.mk h
      clear h c5
      go_enter Try.func18, Try.ntmps18
      go_wp2_with (first | (go_at_call 23; (with_reducible refine (dbus_zzIndex.calls k a0 ⟨#[46]⟩ i _ HI.out).mono ?_); rintro e w' ⟨rfl, ⟨nd, rfl⟩⟩))
      go_loopg [] k (fun kq w' => ∃ (pos : Nat), Aside0 (dbus_isValidMember.l kq a0 pos = some r) ∧ Aside0 (w'.heap[w.heap.size]? = some (.stringIter a0 pos)) ∧ Aside0 (Below w.heap.size w w'))
      case atStart => exact ⟨0, HL, ⟨World.iter_heap (w.drewN nd) a0 0⟩, ⟨below_alloc (pw_below_drewN HB.out nd) _⟩⟩
      case round =>
        clear HL HB HI
        obtain ⟨pos, HL, HI, HB⟩ := hrel
        cases gk with
        | zero => exact absurd HL.out (by simp [dbus_isValidMember.l])
        | succ k2 =>
        have h := HL.out
        clear HL
        by_cases hp : pos < a0.size
        · simp only [dbus_isValidMember.l, if_pos hp] at h
          have h' := Option.bind_eq_some_iff.mp h
          clear h
          obtain ⟨t, ht, h⟩ := h'
          have HT := Aside0.mk ht
          have hnx : ∀ ty, (Instr.next (.pointer (some ⟨w.heap.size, 0, none⟩)) true ty).run Try.prog wr = _ := fun ty => Lib.run_next_any_at wr w.heap.size a0 pos ty HI.out hp
          have hit2 := Aside0.mk (Lib.iterAt_heap wr w.heap.size a0 pos (pos + (Utf8.decode a0 pos).2) HI.out)
          have hbw2 := Aside0.mk (Lib.below_iterAt HB.out (k := w.heap.size) (Nat.le_refl _) a0 (pos + (Utf8.decode a0 pos).2))
          obtain ⟨W1, hW1⟩ : ∃ W1, W1 = wr.iterAt w.heap.size a0 (pos + (Utf8.decode a0 pos).2) := ⟨_, rfl⟩
          rw [← hW1] at hnx hit2 hbw2
          clear hW1 HI HB hp ht
          have HB := hbw2
          clear hbw2
          generalize ((Utf8.decode a0 pos).1 : Int) = c at *
          cases t with
          | true =>
            simp only [if_true] at h
            have HL := Aside0.mk h
            clear h
            go_wp2_with (first | (go_at_call 21; (with_reducible refine (dbus_isMemberChar.calls c true _ HT.out).mono ?_); rintro e w' ⟨rfl, ⟨nd2, rfl⟩⟩))
            go_roundg k2
            case measure => omega
            case rel => exact ⟨_, HL, ⟨hit2.out⟩, ⟨by repeat (first | (with_reducible first | exact HB.out | apply below_alloc | apply pw_below_drewN | apply below_drew1) | exact HB.out)⟩⟩
          | false =>
            simp only [Bool.false_eq_true, if_false] at h
            obtain rfl := Option.some.inj h
            clear h
            go_wp2_with (first | (go_at_call 21; (with_reducible refine (dbus_isMemberChar.calls c false _ HT.out).mono ?_); rintro e w' ⟨rfl, ⟨nd2, rfl⟩⟩))
            go_ret
            exact ⟨rfl, by repeat (first | (with_reducible first | exact HB.out | apply below_alloc | apply pw_below_drewN | apply below_drew1) | exact HB.out)⟩
        · simp only [dbus_isValidMember.l, if_neg hp] at h
          obtain rfl := Option.some.inj h
          clear h
          have hnx : ∀ ty, (Instr.next (.pointer (some ⟨w.heap.size, 0, none⟩)) true ty).run Try.prog wr = _ := fun ty => Lib.run_next_end_at wr w.heap.size a0 pos ty HI.out hp
          go_wp2
          go_ret
          exact ⟨rfl, by repeat (first | (with_reducible first | exact HB.out | apply below_alloc | apply pw_below_drewN | apply below_drew1) | exact HB.out)⟩
  · rw [if_neg c3] at h
    obtain rfl := Option.some.inj h
    have b4 : (i != -1) = true := by rw [bne_iff_ne]; exact c3
    clear c1 c2 c3 h
    go_enter Try.func18, Try.ntmps18
    go_wp2_with (first | (go_at_call 23; (with_reducible refine (dbus_zzIndex.calls k a0 ⟨#[46]⟩ i _ HI.out).mono ?_); rintro e w' ⟨rfl, ⟨nd, rfl⟩⟩))
    go_ret
    exact ⟨rfl, by repeat (first | (with_reducible first | exact HB.out | apply below_alloc | apply pw_below_drewN | apply below_drew1) | exact HB.out)⟩

end Go.Proofs.Ytcdbhpmnilfpfaa.MFnNmAll
