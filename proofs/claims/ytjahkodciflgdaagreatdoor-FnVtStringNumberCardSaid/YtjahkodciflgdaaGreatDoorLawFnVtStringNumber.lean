/-
  The tied card of FnVtStringNumber: the law answers true at every input. Conditions: those of the given card (its listed package variables start as the program's text lays them).
-/
import Derived.Test.YtjahkodciflgdaaGreatDoorRows
import Derived.Test.YtjahkodciflgdaaGreatDoorVs8
import Derived.WalkKit
import Derived.ProofKit
import Derived.OpenShut
import Derived.ShutString
import Derived.ChangeOld
import Derived.Below
import Derived.Lib.LaidTab
import Derived.Lib.LaidU8
import Derived.SizedLaws
import Derived.LaidMore
import Derived.LaidOnce
import Derived.Lay
import Derived.Stop.Joined
import Derived.Test.YtjahkodciflgdaaGreatDoorCards
import Derived.Test.YtjahkodciflgdaaGreatDoorTie
import Derived.SevenTiedAt
import Derived.MakeChecks
namespace Go.Proofs.YtjahkodciflgdaaGreatDoor.fnVtStringNumber
open Go.ChangeShapes Go.WideShapes Go.ChangeAt Go.RowKit
open Go.ChangeMaps (open_string shut_string)
set_option linter.unusedVariables false
theorem own : ownKnob Tryz.prog.godebug = none := by kernel_rfl
def laidL : List (String × DataW Unit) := [("math/bits.deBruijn32tab", Rows.laid_math_bits_deBruijn32tab), ("math/bits.deBruijn64tab", Rows.laid_math_bits_deBruijn64tab), ("internal/strconv.optimize", Rows.laid_internal_strconv_optimize), ("internal/strconv.uint64pow10", Rows.laid_internal_strconv_uint64pow10), ("unicode/utf8.acceptRanges", Rows.laid_unicode_utf8_acceptRanges), ("bytes.ErrTooLarge", Rows.laid_bytes_ErrTooLarge), ("pub-barouche/pub/dbus.errDoor", Rows.laid_pub_barouche_pub_dbus_errDoor), ("internal/strconv.leftcheats", Rows.laid_internal_strconv_leftcheats), ("internal/strconv.pow10Tab", Rows.laid_internal_strconv_pow10Tab), ("strconv.isGraphic", Rows.laid_strconv_isGraphic), ("strconv.isNotPrint16", Rows.laid_strconv_isNotPrint16), ("strconv.isNotPrint32", Rows.laid_strconv_isNotPrint32), ("strconv.isPrint16", Rows.laid_strconv_isPrint16), ("strconv.isPrint32", Rows.laid_strconv_isPrint32), ("unicode/utf8.first", Rows.laid_unicode_utf8_first)]
def TAB64 : List Int := [0, 1, 56, 2, 57, 49, 28, 3, 61, 58, 42, 50, 38, 29, 17, 4, 62, 47, 59, 36, 45, 43, 51, 22, 53, 39, 33, 30, 24, 18, 12, 5, 63, 55, 48, 27, 60, 41, 37, 16, 46, 35, 44, 21, 52, 32, 23, 11, 54, 26, 40, 15, 34, 20, 31, 10, 25, 14, 19, 9, 13, 8, 7, 6]
theorem gn1 : Tryz.prog.globalNamed "internal/strconv.uint64pow10" = some 1 := by kernel_rfl
theorem gt1 : (Tryz.prog.globals[1]?).map (·.type) = some 60 := by kernel_rfl
theorem tab60 : Tryz.prog.underlying 60 = some (.array 20 22) := by kernel_rfl
theorem gn4 : Tryz.prog.globalNamed "math/bits.deBruijn64tab" = some 4 := by kernel_rfl
theorem gt4 : (Tryz.prog.globals[4]?).map (·.type) = some 124 := by kernel_rfl
theorem tab124 : Tryz.prog.underlying 124 = some (.array 64 5) := by kernel_rfl
theorem gv_of_laid {W : World} (h0 : laidMetH Tryz.prog laidL W) : MFnVtStringNumber.Gv W := by
  rw [MakeChecks.laidMetH_plain _ _ _ (by kernel_rfl)] at h0
  obtain ⟨g1, t1, cs1, f1, p1, hg1, ht1, hv1, hd1⟩ := Lib.laidMet.reads h0 (n := "internal/strconv.uint64pow10") (d := Rows.laid_internal_strconv_uint64pow10) (by simp [laidL])
  obtain ⟨g4, t4, cs4, f4, p4, hg4, ht4, hv4, hd4⟩ := Lib.laidMet.reads h0 (n := "math/bits.deBruijn64tab") (d := Rows.laid_math_bits_deBruijn64tab) (by simp [laidL])
  obtain rfl := Option.some.inj (gn1.symm.trans hg1)
  obtain rfl := Option.some.inj (gt1.symm.trans ht1)
  obtain rfl := Option.some.inj (gn4.symm.trans hg4)
  obtain rfl := Option.some.inj (gt4.symm.trans ht4)
  have e1 := Lib.cells_of_tab (zs := Lib.pow10Tab) tab60 Tryz.underlying22 (by kernel_rfl) (by kernel_rfl) (by rw [show Lib.tabData .u64 Lib.pow10Tab = Rows.laid_internal_strconv_uint64pow10 from by kernel_rfl]; exact hd1)
  have e4 := Lib.cells_of_tab (zs := TAB64) tab124 Tryz.underlying5 (by kernel_rfl) (by kernel_rfl) (by rw [show Lib.tabData .u8 TAB64 = Rows.laid_math_bits_deBruijn64tab from by kernel_rfl]; exact hd4)
  refine ⟨?_, ?_, ?_⟩
  · unfold Lib.TabIs
    rw [hv1, ← e1]
  · obtain ⟨l4⟩ := cs4
    have e5 : l4 = TAB64.map fun z => Value.int .u8 z := e4
    subst e5
    have := World.var?_cell hg4 hv4 7
    simpa [TAB64] using this
  · obtain ⟨l4⟩ := cs4
    have e5 : l4 = TAB64.map fun z => Value.int .u8 z := e4
    subst e5
    have := World.var?_cell hg4 hv4 15
    simpa [TAB64] using this
set_option maxRecDepth 100000 in
theorem lifted (os : Os) (started : os.Started) (H : Type) (enc : TypeId × Value → H) :
    ReturnsInHanded {} Tryz.checked os 3 .any (fun w args => (Rows.fnVtStringNumberSpec.pre enc Tryz.prog Tryz.f3 [] false w args ∧ laidMetH Tryz.prog laidL w) ∧ sizedMet enc Tryz.prog Tryz.f3 (OpenSpec.ofChange Rows.fnVtStringNumberSpec) false w args)
      (Rows.fnVtStringNumberSpec.post enc Tryz.prog Tryz.f3 false true false false) := by
  refine returnsInHanded_of_change_and (C := Tryz.checked) (X := fun w _ => laidMetH Tryz.prog laidL w) (fun _ _ _ hh h => h.of_heap hh) own started (by kernel_rfl) Tryz.func3
    (ChangeSpec.witness_shaped (enc := enc) (C := Tryz.checked) (os := os) (X := fun w _ => laidMetH Tryz.prog laidL w) false (World.laidAll Tryz.prog os laidL) #[.int .u64 0, .int .u8 0] 8 (World.laidAll_os _ _ _)
      (World.shaped_of_ZipB (by kernel_rfl) (by kernel_rfl)) (by kernel_rfl) (by kernel_rfl) (by kernel_rfl)
      (by rw [MakeChecks.laidMetH_plain _ _ _ (by kernel_rfl)]; exact laidMet_laidAll _ (by kernel_rfl) (by kernel_rfl))) ?_
  intro W base args ds gs before hval0 hW hcnd hsz0 hLaid _
  have hval : ∀ (j : Nat) t v, Tryz.f3.params[j]? = some t → args[j]? = some v → Value.okWide Tryz.prog W .any base t v := hval0
  have hW' := hW
  obtain ⟨p, q, hA0, hV, rfl, hfz, hnd⟩ := hW
  have hA : DataW.TrodAll enc Tryz.prog W 0 (fun _ => true) true Tryz.f3.params.toList args.toList ds p := hA0
  rw [Tryz.params3] at hA hval
  obtain ⟨v0, vs0, d0, ds0, p0, q0, hargs, rfl, rfl, h0, r0⟩ := trodAll_cons hA
  obtain ⟨v1, vs1, d1, ds1, p1, q1, rfl, rfl, rfl, h1, r1⟩ := trodAll_cons r0
  obtain ⟨rfl, rfl, rfl⟩ := trodAll_nil r1
  obtain rfl : args = #[v0, v1] := by cases args; simp_all
  obtain ⟨rfl, rfl⟩ := trodVars_none hV
  obtain ⟨a0, rfl, rfl, rfl, w0⟩ := open_int Tryz.underlying22 (hval 0 22 v0 rfl rfl) h0
  obtain ⟨a1, rfl, rfl, rfl, w1⟩ := open_int Tryz.underlying5 (hval 1 5 v1 rfl rfl) h1
  have b0 : 0 ≤ a0 ∧ a0 ≤ 18446744073709551615 := by simpa [Lit.wf, IntKind.min, IntKind.max, IntKind.signed, IntKind.bits] using w0
  have b1 : 0 ≤ a1 ∧ a1 ≤ 255 := by simpa [Lit.wf, IntKind.min, IntKind.max, IntKind.signed, IntKind.bits] using w1
  clear hA0 hval0 hsz0
  refine (MFnVtStringNumber.law_walk a0 a1 W (gv_of_laid hLaid) b0 b1).mono fun e W' ⟨he, bel⟩ => ?_
  subst he
  exact ⟨_, rfl, _, _, _, [], _, [], hW', trodAll_mk1 (shut_bool Tryz.underlying4 _), (trodAll_cons_mk (shut_int Tryz.underlying22 w0) (trodAll_cons_mk (shut_int Tryz.underlying5 w1) trodAll_mk0)), rfl, bel.frame _, fun h => by cases h⟩
theorem over : Rows.fnVtStringNumberRow.holds Tryz.pinned (OpenSpec.ofChange Rows.fnVtStringNumberSpec) :=
  OpenClaim.holds_of_wide 3 Tryz.f3 rfl rfl rfl rfl rfl rfl rfl ⟨rfl, rfl, rfl, rfl, rfl⟩ rfl rfl rfl rfl rfl (by kernel_rfl) Tryz.func3 (by kernel_rfl)
    (of_decide_eq_true (by kernel_rfl)) (by unfold Func.isWrapper; first | (rw [if_pos (by decide +kernel)]; kernel_rfl) | (rw [if_neg (by decide +kernel)]; exact ⟨rfl, rfl⟩))
    (fun os started H enc _ => lifted os started H enc)
theorem proved : Rows.FnVtStringNumberSaid := over
theorem card_proved : Rows.FnVtStringNumberCardSaid :=
  Claim7.holds_tied_plain_at .later [] [.data, .data, .data, .data, .data, .sentinel, .sentinel, .pinned, .pinned, .pinned, .pinned, .pinned, .pinned, .pinned, .pinned] true (true, "8af05c90de318801ce5b4dc539d101155c3e06e71e581ff45fb4dbb78af8dfd7") true
    proved (fun _ h => by cases h) (by kernel_rfl) (fun _ h => by cases h) fnVtStringNumber_row_tie rfl ⟨rfl, rfl⟩ (by kernel_rfl) rfl
    (fun f fn hf hfn => by
      obtain rfl : f = 3 := Option.some.inj ((show Tryz.prog.funcNamed "pub-barouche/laws.FnVtStringNumber" = some 3 by kernel_rfl).symm.trans hf) |>.symm
      obtain rfl : fn = Tryz.f3 := (Option.some.inj (Tryz.func3.symm.trans hfn)).symm
      exact ⟨by kernel_rfl, fun j t ht => by
        rw [Tryz.params3] at ht
        have hm : t ∈ [22, 5] := by simpa using Array.mem_of_getElem? ht
        have hall : ([22, 5].all fun u => !Tryz.prog.wantsStandIn u) = true := by kernel_rfl
        exact (show Tryz.prog.wantsStandIn t = false by simpa using List.all_eq_true.1 hall t hm)⟩)
    (by kernel_rfl)
#print axioms card_proved
end Go.Proofs.YtjahkodciflgdaaGreatDoor.fnVtStringNumber
namespace Go.Proofs.YtjahkodciflgdaaGreatDoor
/-- The tied card, under a short name, for the claim. -/
theorem fnVtStringNumber_holds : Rows.FnVtStringNumberCardSaid := fnVtStringNumber.card_proved
end Go.Proofs.YtjahkodciflgdaaGreatDoor
