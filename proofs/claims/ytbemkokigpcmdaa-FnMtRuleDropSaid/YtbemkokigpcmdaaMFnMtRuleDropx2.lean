-- Written by a program of this session (myprint.py, out of the translation). Not trusted: Lean checks it.
import Derived.Test.YtbemkokigpcmdaaMFnMtRuleDropx0
namespace Go.Proofs.Ytbemkokigpcmdaa.MFnMtRuleDrop
open Go.RowKit Go.Proofs.YtbemkokigpcmdaaW.PrintWords Go.Proofs.YtbemkokigpcmdaaW.PrintLast Go.Proofs.YtbemkokigpcmdaaW.PrintMore
attribute [local go_sem] max2_int min2_int max_two min_two max_three min_three max_four min_four   -- for this text's walks alone
set_option linter.unusedVariables false
set_option linter.unusedSimpArgs false

/-! ### laws_zzFits4: function 11 -/
-- GIVENTEXT
def Fit (s : ByteArray) : Bool := decide (s.size ≤ 2147483647)
def laws_zzFits4.f (a0 a1 : ByteArray) : Option Bool := some (Fit a0 && Fit a1)
set_option maxHeartbeats 1000000 in
theorem laws_zzFits4.calls (a0 a1 : ByteArray) (r : Bool) (w : World) (h : laws_zzFits4.f a0 a1 = some r) :
    Calls Try.prog 11 #[.agg #[.string a0, .string a1]] w fun e w' => e = .returned (.bool r) ∧ Below w.heap.size w w' := by
  have hr : Aside0 (r = (Fit a0 && Fit a1)) := ⟨(Option.some.inj h).symm⟩
  clear h
  have i0 : ∀ w, (Instr.index 28 (.agg #[.string a0, .string a1]) (.int .i64 0)).run Try.prog w = .ok (.string a0) w := fun _ => by kernel_rfl
  have i1 : ∀ w, (Instr.index 28 (.agg #[.string a0, .string a1]) (.int .i64 1)).run Try.prog w = .ok (.string a1) w := fun _ => by kernel_rfl
  have hu28 := Try.underlying28
  go_enter Try.func11, Try.ntmps11
  go_wp2
  go_loopg [6] 2 (fun kq v6 w' => ∃ k : Nat, k ≤ 2 ∧ v6 = .int .i64 (k : Int) ∧ Aside0 (kq = 2 - k) ∧ Aside0 (0 < k → Fit a0 = true) ∧ Aside0 (1 < k → Fit a1 = true) ∧ Aside0 (Below w.heap.size w w'))
  case atStart => exact ⟨0, by omega, rfl, ⟨rfl⟩, ⟨fun h => by omega⟩, ⟨fun h => by omega⟩, ⟨(Below.refl _ _).alloc (Nat.le_refl _) _⟩⟩
  case round =>
    obtain ⟨k, hk, rfl, HK, HA, HC, HB⟩ := hrel
    rcases (by omega : k = 0 ∨ k = 1 ∨ k = 2) with rfl | rfl | rfl
    · by_cases h0 : a0.size ≤ 2147483647
      · have hd : decide (2147483647 < a0.size) = false := by simpa using h0
        have hd' : decide ((2147483647 : Int) < (a0.size : Int)) = false := by simp; omega
        have hf : Aside0 (Fit a0 = true) := ⟨decide_eq_true h0⟩
        go_wp2
        go_roundg 1
        case measure => have := HK.out; omega
        case rel => exact ⟨1, by omega, rfl, ⟨rfl⟩, ⟨fun _ => hf.out⟩, ⟨fun h => by omega⟩, HB⟩
      · have hd : decide (2147483647 < a0.size) = true := by simpa using h0
        have hd' : decide ((2147483647 : Int) < (a0.size : Int)) = true := by simp; omega
        have hf : Aside0 (Fit a0 = false) := ⟨decide_eq_false h0⟩
        go_wp2
        go_ret
        exact ⟨by rw [hr.out, hf.out]; rfl, HB.out⟩
    · by_cases h0 : a1.size ≤ 2147483647
      · have hd : decide (2147483647 < a1.size) = false := by simpa using h0
        have hd' : decide ((2147483647 : Int) < (a1.size : Int)) = false := by simp; omega
        have hf : Aside0 (Fit a1 = true) := ⟨decide_eq_true h0⟩
        go_wp2
        go_roundg 0
        case measure => have := HK.out; omega
        case rel => exact ⟨2, by omega, rfl, ⟨rfl⟩, ⟨fun _ => HA.out (by omega)⟩, ⟨fun _ => hf.out⟩, HB⟩
      · have hd : decide (2147483647 < a1.size) = true := by simpa using h0
        have hd' : decide ((2147483647 : Int) < (a1.size : Int)) = true := by simp; omega
        have hf : Aside0 (Fit a1 = false) := ⟨decide_eq_false h0⟩
        go_wp2
        go_ret
        exact ⟨by rw [hr.out, hf.out, Bool.and_false]; rfl, HB.out⟩
    · go_wp2
      go_ret
      exact ⟨by rw [hr.out, HA.out (by omega), HC.out (by omega)]; rfl, HB.out⟩

end Go.Proofs.Ytbemkokigpcmdaa.MFnMtRuleDrop
