-- The row of FnMtRuleDrop (written out of the printed rows of the kit, the parameter [][2]string opened by hand).
import Derived.Test.YtbemkokigpcmdaaRows
import Derived.Test.YtbemkokigpcmdaaMFnMtRuleDropx7
import Derived.Test.YtbemkokigpcmdaaPureFnMtRuleDrop
import Derived.Test.YtbemkokigpcmdaaOpenP
import Derived.WalkKit
import Derived.ProofKit
import Derived.OpenShut
import Derived.ShutString
import Derived.ChangeOld
import Derived.Below
import Derived.SizedLaws
namespace Go.Proofs.Ytbemkokigpcmdaa.fnMtRuleDrop
open Go.ChangeShapes Go.WideShapes Go.ChangeAt Go.RowKit Go.Proofs.YtbemkokigpcmdaaW.PrintWords
open Go.ChangeMaps (open_string shut_string)
set_option linter.unusedVariables false
theorem own : ownKnob Try.prog.godebug = none := by kernel_rfl
theorem laidOut : laidOutB Try.prog = true := by kernel_rfl
def IsRow (w : World) (a : Option Addr) (len cap : Nat) (zs : List MFnMtRuleDrop.S28) : Prop := zs.length = len ∧ len ≤ cap ∧ Kd.C MFnMtRuleDrop.k28 w a len zs
set_option maxRecDepth 100000 in
theorem lifted (os : Os) (started : os.Started) (H : Type) (enc : TypeId × Value → H) :
    ReturnsInHanded {} Try.checked os 4 .any (Rows.fnMtRuleDropSpec.pre6 enc Try.prog Try.f4 Rows.fnMtRuleDropRow.domain false) (Rows.fnMtRuleDropSpec.post enc Try.prog Try.f4 false true false false) := by
  refine returnsInHanded_of_change_sized (C := Try.checked) own started (by kernel_rfl) Try.func4
    (ChangeSpec.witness6 (enc := enc) (C := Try.checked) false ⟨#[], #[.slice none 0 0, .int .u8 0], []⟩ 8 (by kernel_rfl) (by kernel_rfl) (by kernel_rfl) (by kernel_rfl)) ?_
  intro W base args ds gs before hval0 hW hcnd hsz0 _
  have hval : ∀ (j : Nat) t v, Try.f4.params[j]? = some t → args[j]? = some v → Value.okWide Try.prog W .any base t v := hval0
  have hW' := hW
  obtain ⟨p, q, hA0, hV, rfl, hfz, hnd⟩ := hW
  have hA : DataW.TrodAll enc Try.prog W 0 (fun _ => true) true Try.f4.params.toList args.toList ds p := hA0
  rw [Try.params4] at hA hval
  obtain ⟨v0, vs0, d0, ds0, p0, q0, hargs, rfl, rfl, h0, r0⟩ := trodAll_cons hA
  obtain ⟨v1, vs1, d1, ds1, p1, q1, rfl, rfl, rfl, h1, r1⟩ := trodAll_cons r0
  obtain ⟨rfl, rfl, rfl⟩ := trodAll_nil r1
  obtain rfl : args = #[v0, v1] := by cases args; simp_all
  obtain ⟨rfl, rfl⟩ := trodVars_none hV
  obtain ⟨a0, len0, cap0, rfl⟩ := okWide_slice Try.underlying22 (hval 0 22 v0 rfl rfl)
  have k0 := h0
  have lt0 : ∀ x ∈ p0, x.block < W.heap.size := by obtain ⟨m, hm⟩ := k0; exact DataW.trod_lt m _ _ _ hm
  obtain ⟨z0, w0⟩ : ∃ zs, IsRow W a0 len0 cap0 zs := by
    obtain ⟨fuel, hf⟩ := h0
    rcases OpenP.open_str_pairs Try.underlying22 Try.underlying28 Try.underlying9 (by kernel_rfl) (by kernel_rfl) hf with hcs | ⟨x, l, c, F, hcs, hl, hm, hcell⟩
    · simp [Value.cells] at hcs
      obtain ⟨rfl, rfl, rfl⟩ := hcs
      exact ⟨[], rfl, Nat.le_refl _, rfl, by omega, fun h => by omega⟩
    · simp [Value.cells] at hcs
      obtain ⟨rfl, rfl, rfl⟩ := hcs
      refine ⟨(List.range len0).map fun i => ⟨(F i).1, (F i).2⟩, by simp, hl, by simp, by unfold maxLen at hm; omega, fun _ => ⟨x, rfl, fun j p hj => ?_⟩⟩
      have hj' : j < len0 := by have := (List.getElem?_eq_some_iff.1 hj).1; simpa using this
      have hp : p = ⟨(F j).1, (F j).2⟩ := by simp [hj'] at hj; exact hj.symm
      subst hp
      refine ⟨[.string (F j).1, .string (F j).2], rfl, MFnMtRuleDrop.k28_mk _ _, fun i u hu => ?_⟩
      obtain ⟨g0, g1⟩ := hcell j hj'
      match i, hu with
      | 0, hu => injection hu with hu; subst hu; exact g0
      | 1, hu => injection hu with hu; subst hu; exact g1
  obtain ⟨a1, rfl, rfl, rfl, w1⟩ := open_int Try.underlying5 (hval 1 5 v1 rfl rfl) h1
  clear hA0 hval0 hsz0
  obtain ⟨rfl, hl0, hc0⟩ := w0
  obtain ⟨k, hk⟩ := Pure.FnMtRuleDrop z0 a1 (bounds_u8 w1)
  refine (MFnMtRuleDrop.laws_FnMtRuleDrop.calls k a0 cap0 z0 a1 true W hc0 hl0 hk).mono fun e W' ⟨he, bel⟩ => ?_
  subst he
  exact ⟨_, rfl, _, _, _, [], _, [], hW', trodAll_mk1 (shut_bool Try.underlying4 _), (trodAll_cons_mk (Below.trod laidOut (by kernel_rfl) (of_decide_eq_true (by kernel_rfl)) k0 bel lt0) (trodAll_cons_mk (shut_int Try.underlying5 w1) trodAll_mk0)), rfl, bel.frame _, fun h => by cases h⟩
theorem over : Rows.fnMtRuleDropRow.holds Try.pinned (OpenSpec.ofChange Rows.fnMtRuleDropSpec) :=
  OpenClaim.holds_of_wide 4 Try.f4 rfl rfl rfl rfl rfl rfl rfl ⟨rfl, rfl, rfl, rfl, rfl⟩ rfl rfl rfl rfl rfl (by kernel_rfl) Try.func4 (by kernel_rfl)
    (of_decide_eq_true (by kernel_rfl)) (by unfold Func.isWrapper; first | (rw [if_pos (by decide +kernel)]; kernel_rfl) | (rw [if_neg (by decide +kernel)]; exact ⟨rfl, rfl⟩))
    (fun os started H enc _ => lifted os started H enc)
theorem proved : Rows.FnMtRuleDropSaid := over
#print axioms proved
end Go.Proofs.Ytbemkokigpcmdaa.fnMtRuleDrop
namespace Go.Proofs.Ytbemkokigpcmdaa
/-- The row, under a short name, for the claim. -/
theorem fnMtRuleDrop_holds : Rows.FnMtRuleDropSaid := fnMtRuleDrop.proved
end Go.Proofs.Ytbemkokigpcmdaa
