/-
  The tied card of FnSgOfParse: the law answers true at every input. Conditions: those of the given card (its listed package variables start as the program's text lays them).
-/
import Derived.Test.YtboioihppjhjcaaDoorRows
import Derived.Test.YtboioihppjhjcaaDoorQB07
import Derived.Test.YtboioihppjhjcaaDoorQB04
import Derived.WalkKit
import Derived.ProofKit
import Derived.OpenShut
import Derived.ChangeOld
import Derived.Below
import Derived.Lib.LaidTab
import Derived.Lib.LaidU8
import Derived.Lib.LaidU8T
import Derived.SizedLaws
import Derived.LaidMore
import Derived.LaidOnce
import Derived.Lay
import Derived.Stop.Joined
import Derived.Test.YtboioihppjhjcaaDoorCards
import Derived.Test.YtboioihppjhjcaaDoorTie
import Derived.SevenTiedAt
import Derived.MakeChecks
namespace Go.Proofs.YtboioihppjhjcaaDoor.fnSgOfParse
open Go.ChangeShapes Go.WideShapes Go.ChangeAt Go.RowKit Go.Proofs.YtboioihppjhjcaaDoorW.PrintWords
set_option linter.unusedVariables false
theorem own : ownKnob Tryd.prog.godebug = none := by kernel_rfl
def laidL : List (String × DataW Unit) := [("unicode/utf8.acceptRanges", Rows.laid_unicode_utf8_acceptRanges), ("pub-barouche/pub/dbus.errDoor", Rows.laid_pub_barouche_pub_dbus_errDoor), ("unicode/utf8.first", Rows.laid_unicode_utf8_first)]
theorem laidOut : laidOutB Tryd.prog = true := by kernel_rfl
theorem u8extra : U8Extra Tryd.prog Tryd.lays196_ren := {
  n3 := by kernel_rfl
  n4 := by kernel_rfl
  y3 := by kernel_rfl
  y4 := by kernel_rfl
  c5 := by kernel_rfl
  c119 := by kernel_rfl
  c138 := by kernel_rfl }
theorem tabs_of_laid {W : World} (h0 : laidMetH Tryd.prog laidL W) : Lib.Utf8Tabs 1 2 W := by
  unfold laidL at h0
  rw [MakeChecks.laidMetH_plain _ _ _ (by kernel_rfl)] at h0
  have e1 : Rows.laid_unicode_utf8_first = Lib.firstData := by kernel_rfl
  have e2 : (Rows.laid_unicode_utf8_acceptRanges : DataW Unit) = Lib.acceptData := by kernel_rfl
  rw [e1, e2] at h0
  exact utf8Tabs_of_readsT (U8Types.of196 Tryd.lays196) u8extra (Lib.laidMet.reads h0 (by simp)) (Lib.laidMet.reads h0 (by simp))
set_option maxRecDepth 100000 in
theorem lifted (os : Os) (started : os.Started) (H : Type) (enc : TypeId × Value → H) :
    ReturnsInHanded {} Tryd.checked os 4 .any (fun w args => (Rows.fnSgOfParseSpec.pre enc Tryd.prog Tryd.f4 [] false w args ∧ laidMetH Tryd.prog laidL w) ∧ sizedMet enc Tryd.prog Tryd.f4 (OpenSpec.ofChange Rows.fnSgOfParseSpec) false w args)
      (Rows.fnSgOfParseSpec.post enc Tryd.prog Tryd.f4 false true false false) := by
  refine returnsInHanded_of_change_and (C := Tryd.checked) (X := fun w _ => laidMetH Tryd.prog laidL w) (fun _ _ _ hh h => h.of_heap hh) own started (by kernel_rfl) Tryd.func4
    (ChangeSpec.witness_shaped (enc := enc) (C := Tryd.checked) (os := os) (X := fun w _ => laidMetH Tryd.prog laidL w) false (World.laidAll Tryd.prog os laidL) #[.slice none 0 0] 8 (World.laidAll_os _ _ _)
      (World.shaped_of_ZipB (by kernel_rfl) (by kernel_rfl)) (by kernel_rfl) (by kernel_rfl) (by kernel_rfl)
      (by rw [MakeChecks.laidMetH_plain _ _ _ (by kernel_rfl)]; exact laidMet_laidAll _ (by kernel_rfl) (by kernel_rfl))) ?_
  intro W base args ds gs before hval0 hW hcnd hsz0 hLaid _
  have hval : ∀ (j : Nat) t v, Tryd.f4.params[j]? = some t → args[j]? = some v → Value.okWide Tryd.prog W .any base t v := hval0
  have hW' := hW
  obtain ⟨p, q, hA0, hV, rfl, hfz, hnd⟩ := hW
  have hA : DataW.TrodAll enc Tryd.prog W 0 (fun _ => true) true Tryd.f4.params.toList args.toList ds p := hA0
  rw [Tryd.params4] at hA hval
  obtain ⟨v0, vs0, d0, ds0, p0, q0, hargs, rfl, rfl, h0, r0⟩ := trodAll_cons hA
  obtain ⟨rfl, rfl, rfl⟩ := trodAll_nil r0
  obtain rfl : args = #[v0] := by cases args; simp_all
  obtain ⟨rfl, rfl⟩ := trodVars_none hV
  obtain ⟨a0, len0, cap0, rfl⟩ := okWide_slice Tryd.underlying22 (hval 0 22 v0 rfl rfl)
  have k0 := h0
  have lt0 : ∀ x ∈ p0, x.block < W.heap.size := by obtain ⟨m, hm⟩ := k0; exact DataW.trod_lt m _ _ _ hm
  obtain ⟨xs, hxl, hxc, hxC⟩ : ∃ xs : List MFnSgOf.S31, xs.length = len0 ∧ xs.length ≤ cap0 ∧ Kd.C MFnSgOf.k31 W a0 xs.length xs := by
    obtain ⟨fuel, hf⟩ := h0
    obtain ⟨A, xs, c, hcs, hle, hC⟩ := MFnSgOf.open_C MFnSgOf.k31 Tryd.underlying22 (by kernel_rfl) (fun n _ => MFnSgOf.el31 n) hf
    simp [Value.cells] at hcs
    obtain ⟨rfl, rfl, rfl⟩ := hcs
    exact ⟨xs, rfl, hle, hC⟩
  clear hA0 hval0 hsz0
  subst hxl
  refine (MFnSgOf.law2_calls xs a0 cap0 W (tabs_of_laid hLaid) hxC hxc).mono fun e W' ⟨he, bel⟩ => ?_
  subst he
  exact ⟨_, rfl, _, _, _, [], _, [], hW', trodAll_mk1 (shut_bool Tryd.underlying4 _), (trodAll_cons_mk (Below.trod laidOut (by kernel_rfl) (of_decide_eq_true (by kernel_rfl)) k0 bel lt0) trodAll_mk0), rfl, bel.frame _, fun h => by cases h⟩
theorem over : Rows.fnSgOfParseRow.holds Tryd.pinned (OpenSpec.ofChange Rows.fnSgOfParseSpec) :=
  OpenClaim.holds_of_wide 4 Tryd.f4 rfl rfl rfl rfl rfl rfl rfl ⟨rfl, rfl, rfl, rfl, rfl⟩ rfl rfl rfl rfl rfl (by kernel_rfl) Tryd.func4 (by kernel_rfl)
    (of_decide_eq_true (by kernel_rfl)) (by unfold Func.isWrapper; first | (rw [if_pos (by decide +kernel)]; kernel_rfl) | (rw [if_neg (by decide +kernel)]; exact ⟨rfl, rfl⟩))
    (fun os started H enc _ => lifted os started H enc)
theorem proved : Rows.FnSgOfParseSaid := over
theorem card_proved : Rows.FnSgOfParseCardSaid :=
  Claim7.holds_tied_plain_at .later [] [.data, .sentinel, .pinned] true (true, "83f1955a11069437e49b9b0a09a0d40fc7a9d5107afe24f4bc36adb446eccb3f") true
    proved (fun _ h => by cases h) (by kernel_rfl) (fun _ h => by cases h) fnSgOfParse_row_tie rfl ⟨rfl, rfl⟩ (by kernel_rfl) rfl
    (fun f fn hf hfn => by
      obtain rfl : f = 4 := Option.some.inj ((show Tryd.prog.funcNamed "pub-barouche/laws.FnSgOfParse" = some 4 by kernel_rfl).symm.trans hf) |>.symm
      obtain rfl : fn = Tryd.f4 := (Option.some.inj (Tryd.func4.symm.trans hfn)).symm
      exact ⟨by kernel_rfl, fun j t ht => by
        rw [Tryd.params4] at ht
        have hm : t ∈ [22] := by simpa using Array.mem_of_getElem? ht
        have hall : ([22].all fun u => !Tryd.prog.wantsStandIn u) = true := by kernel_rfl
        exact (show Tryd.prog.wantsStandIn t = false by simpa using List.all_eq_true.1 hall t hm)⟩)
    (by kernel_rfl)
#print axioms card_proved
end Go.Proofs.YtboioihppjhjcaaDoor.fnSgOfParse
namespace Go.Proofs.YtboioihppjhjcaaDoor
/-- The tied card, under a short name, for the claim. -/
theorem fnSgOfParse_holds : Rows.FnSgOfParseCardSaid := fnSgOfParse.card_proved
end Go.Proofs.YtboioihppjhjcaaDoor
