-- Written by a program of this session (myprint.py, out of the translation). Not trusted: Lean checks it.
import Derived.Test.YtfipimoemhbnlaaMFnSgReplacex0
import Derived.Test.YtfipimoemhbnlaaMFnSgReplacex6
namespace Go.Proofs.Ytfipimoemhbnlaa.MFnSgReplace
open Go.RowKit Go.Proofs.YtfipimoemhbnlaaW.PrintWords Go.Proofs.YtfipimoemhbnlaaW.PrintLast Go.Proofs.YtfipimoemhbnlaaW.PrintMore
attribute [local go_sem] max2_int min2_int max_two min_two max_three min_three max_four min_four   -- for this text's walks alone
set_option linter.unusedVariables false
set_option linter.unusedSimpArgs false

/-! ### dbus_ParseSignature: function 19 -/
-- GIVENTEXT
def dbus_ParseSignature.l : Nat → Option (TypeId × Value) → ByteArray → Option (Option (TypeId × Value))
  | 0, _, _ => none
  | k + 1, e, s => if e.isSome = true then some e else if s.size = 0 then some none else (dbus_validSingle.g k s 0 0 0).bind fun x => dbus_ParseSignature.l k x.1 x.2
def dbus_ParseSignature.f (k : Nat) (a0 : ByteArray) : Option (ByteArray × Option (TypeId × Value)) :=
  if a0.size = 0 then some (⟨#[]⟩, none)
  else if 255 < a0.size then some (⟨#[]⟩, dbus_validSingle.er a0 ⟨#[116, 111, 111, 32, 108, 111, 110, 103]⟩)
  else (dbus_ParseSignature.l k none a0).bind fun e => if e.isSome = true then some (⟨#[]⟩, e) else some (a0, e)
theorem dbus_ParseSignature.mono_l : ∀ k e s, LeO (dbus_ParseSignature.l k e s) (dbus_ParseSignature.l (k + 1) e s)
  | 0 => fun _ _ r h => by simp [dbus_ParseSignature.l] at h
  | k + 1 => by
    intro e s
    unfold dbus_ParseSignature.l
    exact LeO.ite (LeO.refl _) (LeO.ite (LeO.refl _) (LeO.bind ((dbus_validSingle.mono_l k).1 _ _ _ _) (fun _ => dbus_ParseSignature.mono_l k _ _)))
theorem dbus_ParseSignature.mono : ∀ a0 k, LeO (dbus_ParseSignature.f k a0) (dbus_ParseSignature.f (k + 1) a0) := by
  intro a0 k
  exact LeO.ite (LeO.refl _) (LeO.ite (LeO.refl _) (LeO.bind (dbus_ParseSignature.mono_l k _ _) (fun _ => LeO.refl _)))
set_option maxHeartbeats 2000000 in
set_option maxRecDepth 100000 in
theorem dbus_ParseSignature.calls (k : Nat) (a0 : ByteArray) (r1 : ByteArray) (r2 : Option (TypeId × Value)) (w : World) (h : dbus_ParseSignature.f k a0 = some (r1, r2)) :
    Calls Try.prog 19 #[.string a0] w fun e w' => e = .returned (.tuple #[.agg #[.string r1], errW r2]) ∧ Below w.heap.size w w' := by
  have hu := Try.underlying42
  have hu2 := Try.underlying54
  have hu3 := Try.underlying59
  have HB := Aside0.mk (Below.refl w.heap.size w)
  unfold dbus_ParseSignature.f at h
  by_cases c1 : a0.size = 0
  · rw [if_pos c1] at h
    obtain ⟨rfl, rfl⟩ := Prod.mk.inj (Option.some.inj h)
    have b1 : ((a0.size : Int) == 0) = true := by rw [beq_iff_eq]; omega
    clear c1 h
    go_enter Try.func19, Try.ntmps19
    go_wp2
    exact bodyPost_ret (v := .tuple #[.agg #[.string ⟨#[]⟩], .nilIface]) (by simp [results, Try.results19, go_sem, hu]) rfl ⟨rfl, by repeat (first | (with_reducible first | exact HB.out | apply below_alloc | apply pw_below_drewN | apply below_drew1) | exact HB.out)⟩
  · rw [if_neg c1] at h
    have b1 : ((a0.size : Int) == 0) = false := by rw [beq_eq_false_iff_ne]; omega
    by_cases c2 : 255 < a0.size
    · rw [if_pos c2] at h
      obtain ⟨rfl, rfl⟩ := Prod.mk.inj (Option.some.inj h)
      have b2 : decide ((255 : Int) < (a0.size : Int)) = true := decide_eq_true (by omega)
      have b3 : decide (255 < a0.size) = true := decide_eq_true c2
      clear c1 c2 h
      go_enter Try.func19, Try.ntmps19
      go_wp2
      exact bodyPost_ret (v := .tuple #[.agg #[.string ⟨#[]⟩], errW (dbus_validSingle.er a0 ⟨#[116, 111, 111, 32, 108, 111, 110, 103]⟩)]) (by simp [results, Try.results19, go_sem, hu]; rfl) rfl ⟨rfl, by repeat (first | (with_reducible first | exact HB.out | apply below_alloc | apply pw_below_drewN | apply below_drew1) | exact HB.out)⟩
    · rw [if_neg c2] at h
      have b2 : decide ((255 : Int) < (a0.size : Int)) = false := decide_eq_false (by omega)
      have b3 : decide (255 < a0.size) = false := decide_eq_false c2
      clear c1 c2
      have h' := Option.bind_eq_some_iff.mp h
      clear h
      obtain ⟨ev, hl, hr⟩ := h'
      have HL := Aside0.mk hl
      have HR := Aside0.mk hr
      clear hl hr
      go_enter Try.func19, Try.ntmps19
      go_wp2
      go_loopg [0, 3] k (fun kq v0 v3 w' => ∃ (t : ByteArray) (e : Option (TypeId × Value)), v0 = .string t ∧ v3 = errW e ∧ Aside0 (dbus_ParseSignature.l kq e t = some ev) ∧ Aside0 (w'.cell? ⟨w.heap.size, 0, none⟩ = some (.string a0)) ∧ Aside0 (w'.frozen? ⟨w.heap.size, 0, none⟩ = false) ∧ Aside0 (w.heap.size < w'.heap.size) ∧ Aside0 (Below w.heap.size w w'))
      case atStart => exact ⟨_, none, rfl, rfl, HL, ⟨by simp⟩, ⟨by simp⟩, ⟨by simp⟩, ⟨by repeat (first | (with_reducible first | exact HB.out | apply below_alloc | apply pw_below_drewN | apply below_drew1) | exact HB.out)⟩⟩
      case round =>
        clear HL HB b1 b2 b3
        obtain ⟨t, e, rfl, rfl, HL, HC, HZ, HS, HB⟩ := hrel
        cases gk with
        | zero => exact absurd HL.out (by simp [dbus_ParseSignature.l])
        | succ k2 =>
        have h := HL.out
        clear HL
        simp only [dbus_ParseSignature.l] at h
        cases e with
        | some x =>
          simp only [Option.isSome_some, if_true] at h
          obtain rfl := Option.some.inj h
          have hr := HR.out
          clear h HR
          simp only [Option.isSome_some, if_true] at hr
          obtain ⟨rfl, rfl⟩ := Prod.mk.inj (Option.some.inj hr)
          clear hr
          have hc := HC.out
          have hz := HZ.out
          simp only [errW_some]
          go_wp2
          exact bodyPost_ret (v := .tuple #[.agg #[.string ⟨#[]⟩], .iface x.1 x.2]) (by simp [results, Try.results19, go_sem, hu, hc]) rfl ⟨rfl, below_set HB.out (Nat.le_refl _)⟩
        | none =>
          simp only [Option.isSome_none, Bool.false_eq_true, if_false] at h
          simp only [errW_none]
          by_cases cy : t.size = 0
          · rw [if_pos cy] at h
            obtain rfl := Option.some.inj h
            have hr := HR.out
            clear h HR
            simp only [Option.isSome_none, Bool.false_eq_true, if_false] at hr
            obtain ⟨rfl, rfl⟩ := Prod.mk.inj (Option.some.inj hr)
            have e2 : ((t.size : Int) != 0) = false := by simp [cy]
            clear hr cy
            have hc := HC.out
            have hz := HZ.out
            go_wp2
            exact bodyPost_ret (v := .tuple #[.agg #[.string a0], .nilIface]) (by simp [results, Try.results19, go_sem, hu, hc]) rfl ⟨rfl, by repeat (first | (with_reducible first | exact HB.out | apply below_alloc | apply pw_below_drewN | apply below_drew1) | exact HB.out)⟩
          · rw [if_neg cy] at h
            have e2 : ((t.size : Int) != 0) = true := by rw [bne_iff_ne]; omega
            have h' := Option.bind_eq_some_iff.mp h
            clear h cy
            obtain ⟨⟨x1, x2⟩, hx, h⟩ := h'
            have HX := Aside0.mk hx
            have HH := Aside0.mk h
            clear h hx
            go_wp2_with (first | (go_at_call 24; refine (dbus_validSingle.core k2 _ wr.heap.size 0 0 0 x1 x2 _ (by simp) (by simp) (by simp) HX.out).mono ?_; rintro e w6 ⟨rfl, hb⟩; have hb2 := Aside0.mk (below_step (by repeat (first | (with_reducible first | exact HB.out | apply below_alloc | apply pw_below_drewN | apply below_drew1) | exact HB.out)) hb); have hbw := Aside0.mk (below_step (below_alloc (Below.refl wr.heap.size wr) _) hb); clear HB hb))
            go_roundg k2
            case measure => omega
            case rel => exact ⟨x2, x1, rfl, rfl, HH, ⟨(hbw.out.cell (p := ⟨w.heap.size, 0, none⟩) HS.out).trans HC.out⟩, ⟨(hbw.out.frozen (p := ⟨w.heap.size, 0, none⟩) HS.out).trans HZ.out⟩, ⟨Nat.lt_of_lt_of_le HS.out hbw.out.size⟩, hb2⟩

end Go.Proofs.Ytfipimoemhbnlaa.MFnSgReplace
