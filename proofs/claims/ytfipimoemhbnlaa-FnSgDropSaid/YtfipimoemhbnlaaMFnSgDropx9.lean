-- Written by a program of this session (myprint.py, out of the translation). Not trusted: Lean checks it.
import Derived.Test.YtfipimoemhbnlaaMFnSgDropx0
import Derived.Test.YtfipimoemhbnlaaMFnSgDropx6
namespace Go.Proofs.Ytfipimoemhbnlaa.MFnSgDrop
open Go.RowKit Go.Proofs.YtfipimoemhbnlaaW.PrintWords Go.Proofs.YtfipimoemhbnlaaW.PrintLast Go.Proofs.YtfipimoemhbnlaaW.PrintMore
attribute [local go_sem] max2_int min2_int max_two min_two max_three min_three max_four min_four   -- for this text's walks alone
set_option linter.unusedVariables false
set_option linter.unusedSimpArgs false

/-! ### dbus_DoorBegin: function 23 -/
-- GIVENTEXT
def dbus_DoorBegin.f (k : Nat) (a0 : ByteArray) (a1 a2 a3 : Int) : Option (ByteArray × Option (TypeId × Value)) := (dbus_validSingle.g k a0 a1 a2 a3).bind fun x => some (x.2, x.1)
theorem dbus_DoorBegin.mono : ∀ a0 a1 a2 a3 k, LeO (dbus_DoorBegin.f k a0 a1 a2 a3) (dbus_DoorBegin.f (k + 1) a0 a1 a2 a3) := by
  intro a0 a1 a2 a3 k
  exact LeO.bind ((dbus_validSingle.mono_l k).1 _ _ _ _) (fun _ => LeO.refl _)
set_option maxHeartbeats 2000000 in
set_option maxRecDepth 100000 in
theorem dbus_DoorBegin.calls (k : Nat) (a0 : ByteArray) (a1 a2 a3 : Int) (r1 : ByteArray) (r2 : Option (TypeId × Value)) (w : World) (h : dbus_DoorBegin.f k a0 a1 a2 a3 = some (r1, r2)) :
    Calls Try.prog 23 #[.string a0, .int .i64 a1, .int .i64 a2, .int .i64 a3] w fun e w' => e = .returned (.tuple #[.string r1, errW r2]) ∧ Below w.heap.size w w' := by
  have hu3 := Try.underlying59
  have HB := Aside0.mk (Below.refl w.heap.size w)
  obtain ⟨⟨x1, x2⟩, hx, h⟩ := Option.bind_eq_some_iff.mp h
  obtain ⟨rfl, rfl⟩ := Prod.mk.inj (Option.some.inj h)
  have HX := Aside0.mk hx
  clear h hx
  go_enter Try.func23, Try.ntmps23
  go_wp2_with (first | (go_at_call 24; refine (dbus_validSingle.core k _ w.heap.size a1 a2 a3 x1 x2 _ (by simp) (by simp) (by simp) HX.out).mono ?_; rintro e w6 ⟨rfl, hb⟩; have hb2 := Aside0.mk (below_step (by repeat (first | (with_reducible first | exact HB.out | apply below_alloc | apply pw_below_drewN | apply below_drew1) | exact HB.out)) hb); clear HB hb))
  go_ret2
  exact ⟨rfl, hb2.out⟩

end Go.Proofs.Ytfipimoemhbnlaa.MFnSgDrop
