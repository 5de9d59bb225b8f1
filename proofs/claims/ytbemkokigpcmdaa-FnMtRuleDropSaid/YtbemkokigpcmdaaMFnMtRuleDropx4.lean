-- Written by a program of this session (myprint.py, out of the translation). Not trusted: Lean checks it.
import Derived.Test.YtbemkokigpcmdaaMFnMtRuleDropx0
namespace Go.Proofs.Ytbemkokigpcmdaa.MFnMtRuleDrop
open Go.RowKit Go.Proofs.YtbemkokigpcmdaaW.PrintWords Go.Proofs.YtbemkokigpcmdaaW.PrintLast Go.Proofs.YtbemkokigpcmdaaW.PrintMore
attribute [local go_sem] max2_int min2_int max_two min_two max_three min_three max_four min_four   -- for this text's walks alone
set_option linter.unusedVariables false
set_option linter.unusedSimpArgs false

/-! ### strings_Join: function 15 -/
-- GIVENTEXT
-- INFO 9
def joined (l : List ByteArray) (sep : ByteArray) : List UInt8 := Lib.join (l.map (·.data.toList)) sep.data.toList
def strings_Join.f (a0 : List ByteArray) (a1 : ByteArray) : Option ByteArray := if a0.length ≤ 140737488355328 then if (joined a0 a1).length ≤ 140737488355328 then some ⟨(joined a0 a1).toArray⟩ else none else none
theorem strings_Join.calls (A0 : Option Addr) (c0 : Nat) (a0 : List ByteArray) (a1 : ByteArray) (r : ByteArray) (w : World) (hr0 : Kd.C Kd.string w A0 a0.length a0) (hc0 : a0.length ≤ c0) (h : strings_Join.f a0 a1 = some r) :
    Calls Try.prog 15 #[.slice A0 a0.length c0, .string a1] w fun e w' => e = .returned (.string r) ∧ Below w.heap.size w w' := by
  unfold strings_Join.f at h
  split at h
  · rename_i h1
    split at h
    · rename_i h2
      obtain rfl := Option.some.inj h
      rcases a0 with _ | ⟨x, xs⟩
      · exact (Try.strings_Join_none A0 c0 a1 w).mono fun e w' ⟨he, hw⟩ => ⟨by rw [he]; rfl, by rw [hw]; exact Below.refl _ _⟩
      · obtain ⟨_, _, hg⟩ := hr0
        obtain ⟨ad, rfl, hc⟩ := hg (by simp)
        have hcell : ∀ (j : Nat) y, (x :: xs)[j]? = some y → w.cell? (ad.add j) = some (.string y) := by
          intro j y hj
          obtain ⟨c, _, h4, h5⟩ := hc j y hj
          have h4' : c = [.string y] := h4
          subst h4'
          have := h5 0 (.string y) rfl
          rwa [show Kd.string.sz = 1 from rfl, Nat.mul_one, Nat.add_zero] at this
        have h0 := hcell 0 x rfl
        have hlt := World.block_lt_of_cell? w _ h0
        obtain ⟨b, o, s⟩ := ad
        have hs : s = none := by
          have h0' : w.cell? ⟨b, o, s⟩ = some (.string x) := h0
          unfold World.cell? at h0'
          cases s with
          | none => rfl
          | some _ => revert h0'; cases w.heap[b]? with
            | none => simp
            | some ob => cases ob <;> simp
        subst hs
        exact Try.strings_Join b o c0 (x :: xs) a1 w (fun j y hj => by have := hcell j y hj; rwa [Addr.add_lit] at this) hlt h1 hc0 h2
    · cases h
  · cases h

end Go.Proofs.Ytbemkokigpcmdaa.MFnMtRuleDrop
