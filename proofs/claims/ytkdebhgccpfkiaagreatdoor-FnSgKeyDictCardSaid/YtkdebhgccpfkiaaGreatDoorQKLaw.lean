/-
  The tied card of FnSgKeyDict: the law answers true at every input. Conditions: those of the given card (its listed package variables start as the program's text lays them).
-/
import Derived.Test.YtkdebhgccpfkiaaGreatDoorRows
import Derived.Test.YtkdebhgccpfkiaaGreatDoorQKM1
import Derived.Test.YtkdebhgccpfkiaaGreatDoorQKE1
import Derived.WalkKit
import Derived.ProofKit
import Derived.OpenShut
import Derived.ChangeOld
import Derived.Below
import Derived.Lib.LaidTab
import Derived.Lib.LaidU8
import Derived.Lib.LaidU8T
import Derived.SizedLaws
import Derived.LaidMore
import Derived.LaidOnce
import Derived.Lay
import Derived.Stop.Joined
import Derived.Test.YtkdebhgccpfkiaaGreatDoorCards
import Derived.Test.YtkdebhgccpfkiaaGreatDoorTie
import Derived.SevenTiedAt
import Derived.MakeChecks
namespace Go.Proofs.YtkdebhgccpfkiaaGreatDoor.fnSgKeyDict
open Go.ChangeShapes Go.WideShapes Go.ChangeAt Go.RowKit Go.Proofs.aa.az
set_option linter.unusedVariables false
theorem own : ownKnob Tryz.prog.godebug = none := by kernel_rfl
def Cd : List (String × DataW Unit) := [("unicode/utf8.acceptRanges", Rows.laid_unicode_utf8_acceptRanges), ("io.ErrShortWrite", Rows.laid_io_ErrShortWrite), ("pub-barouche/pub/dbus.errDoor", Rows.laid_pub_barouche_pub_dbus_errDoor), ("unicode/utf8.first", Rows.laid_unicode_utf8_first)]
theorem laidOut : laidOutB Tryz.prog = true := by kernel_rfl
theorem UH : U8Extra Tryz.prog Tryz.De := {
 n3 := by kernel_rfl
 n4 := by kernel_rfl
 y3 := by kernel_rfl
 y4 := by kernel_rfl
 c5 := by kernel_rfl
 c119 := by kernel_rfl
 c138 := by kernel_rfl }
theorem Ig {W : World} (h0 : laidMetH Tryz.prog Cd W) : Lib.Utf8Tabs 3 4 W := by
 unfold Cd at h0
 rw [MakeChecks.laidMetH_plain _ _ _ (by kernel_rfl)] at h0
 have e1 : Rows.laid_unicode_utf8_first = Lib.firstData := by kernel_rfl
 have e2 : (Rows.laid_unicode_utf8_acceptRanges : DataW Unit) = Lib.acceptData := by kernel_rfl
 rw [e1, e2] at h0
 exact utf8Tabs_of_readsT (U8Types.of196 Tryz.Cc) UH (Lib.laidMet.reads h0 (by simp)) (Lib.laidMet.reads h0 (by simp))
set_option maxRecDepth 100000 in
theorem lifted (os : Os) (started : os.Started) (H : Type) (enc : TypeId × Value → H) :
 ReturnsInHanded {} Tryz.checked os 3 .any (fun w args => (Rows.fnSgKeyDictSpec.pre enc Tryz.prog Tryz.f3 [] false w args ∧ laidMetH Tryz.prog Cd w) ∧ sizedMet enc Tryz.prog Tryz.f3 (OpenSpec.ofChange Rows.fnSgKeyDictSpec) false w args)
  (Rows.fnSgKeyDictSpec.post enc Tryz.prog Tryz.f3 false true false false) := by
 refine returnsInHanded_of_change_and (C := Tryz.checked) (X := fun w _ => laidMetH Tryz.prog Cd w) (fun _ _ _ hh h => h.of_heap hh) own started (by kernel_rfl) Tryz.func3
  (ChangeSpec.witness_shaped (enc := enc) (C := Tryz.checked) (os := os) (X := fun w _ => laidMetH Tryz.prog Cd w) false (World.laidAll Tryz.prog os Cd) #[.agg #[.int .u8 0, .int .u64 0, .string ⟨#[]⟩, .slice none 0 0], .agg #[.int .u8 0, .int .u64 0, .string ⟨#[]⟩, .slice none 0 0], .bool false] 8 (World.laidAll_os _ _ _)
    (World.shaped_of_ZipB (by kernel_rfl) (by kernel_rfl)) (by kernel_rfl) (by kernel_rfl) (by kernel_rfl)
    (by rw [MakeChecks.laidMetH_plain _ _ _ (by kernel_rfl)]; exact laidMet_laidAll _ (by kernel_rfl) (by kernel_rfl))) ?_
 intro W base args ds gs before Th hW hcnd aeR ac0 _
 have hval : ∀ (j : Nat) t v, Tryz.f3.params[j]? = some t → args[j]? = some v → Value.okWide Tryz.prog W .any base t v := Th
 have hW' := hW
 obtain ⟨p, q, hA0, hV, rfl, hfz, hnd⟩ := hW
 have hA : DataW.TrodAll enc Tryz.prog W 0 (fun _ => true) true Tryz.f3.params.toList args.toList ds p := hA0
 rw [Tryz.params3] at hA hval
 obtain ⟨v0, vs0, d0, ds0, p0, q0, Hk, rfl, rfl, h0, r0⟩ := trodAll_cons hA
 obtain ⟨v1, vs1, d1, ds1, p1, q1, ag5, rfl, rfl, h1, r1⟩ := trodAll_cons r0
 obtain ⟨v2, vs2, d2, ds2, p2, q2, ag4, rfl, rfl, h2, r2⟩ := trodAll_cons r1
 obtain ⟨rfl, rfl, rfl⟩ := trodAll_nil r2
 obtain rfl : args = #[v0, v1, v2] := by cases args; simp_all
 obtain ⟨rfl, rfl⟩ := trodVars_none hV
 obtain ⟨c0, rfl, il⟩ := okWide_struct Tryz.underlying25 (hval 0 25 v0 rfl rfl)
 obtain ⟨c1, rfl, vu⟩ := okWide_struct Tryz.underlying25 (hval 1 25 v1 rfl rfl)
 obtain ⟨big, rfl⟩ := okWide_bool Tryz.underlying4 (hval 2 4 v2 rfl rfl)
 have k0 := h0
 have k1 := h1
 have k2 := h2
 have lt0 : ∀ x ∈ p0, x.block < W.heap.size := by obtain ⟨m, hm⟩ := k0; exact DataW.trod_lt m _ _ _ hm
 have lt1 : ∀ x ∈ p1, x.block < W.heap.size := by obtain ⟨m, hm⟩ := k1; exact DataW.trod_lt m _ _ _ hm
 have lt2 : ∀ x ∈ p2, x.block < W.heap.size := by obtain ⟨m, hm⟩ := k2; exact DataW.trod_lt m _ _ _ hm
 obtain ⟨key, OD, Ak, ck, hek, Ox, hCk⟩ : ∃ x : au.aT, au.RG x ∧ au.SN W x c0.toList := by
  obtain ⟨fuel, hf⟩ := h0
  obtain ⟨x, _, h2, h3⟩ := au.aaw _ _ _ hf
  refine ⟨x, h2, ?_⟩
  simpa [Value.cells] using h3
 obtain ⟨value, hRv, Av, cv, hev, Ju, hCv⟩ : ∃ x : au.aT, au.RG x ∧ au.SN W x c1.toList := by
  obtain ⟨fuel, hf⟩ := h1
  obtain ⟨x, _, h2, h3⟩ := au.aaw _ _ _ hf
  refine ⟨x, h2, ?_⟩
  simpa [Value.cells] using h3
 obtain rfl : c0 = #[.int .u8 key.f0, .int .u64 key.f1, .string key.f2, .slice Ak key.f3.length ck] := by
  apply Array.ext'
  rw [hek]
 obtain rfl : c1 = #[.int .u8 value.f0, .int .u64 value.f1, .string value.f2, .slice Av value.f3.length cv] := by
  apply Array.ext'
  rw [hev]
 clear hA0 Th aeR hek hev il vu
 have hw := au.NJ key value big Ak Av ck cv W ⟨hCk, Ox, hCv, Ju, Ig ac0⟩ (fun x hx => by
  rw [au.aJ, au.aJ, au.aJ, List.append_nil] at hx
  rcases List.mem_append.mp hx with hx | hx
  · exact OD x hx
  · exact hRv x hx)
 refine hw.mono fun e W' hq => ?_
 unfold au.RQ at hq
 obtain ⟨rfl, TX⟩ := hq
 exact ⟨_, rfl, _, _, _, [], _, [], hW', trodAll_mk1 (shut_bool Tryz.underlying4 _), (trodAll_cons_mk (Below.trod laidOut (by kernel_rfl) (of_decide_eq_true (by kernel_rfl)) k0 TX lt0) (trodAll_cons_mk (Below.trod laidOut (by kernel_rfl) (of_decide_eq_true (by kernel_rfl)) k1 TX lt1) (trodAll_cons_mk (Below.trod laidOut (by kernel_rfl) (of_decide_eq_true (by kernel_rfl)) k2 TX lt2) trodAll_mk0))), rfl, TX.frame _, fun h => by cases h⟩
theorem over : Rows.fnSgKeyDictRow.holds Tryz.pinned (OpenSpec.ofChange Rows.fnSgKeyDictSpec) :=
 OpenClaim.holds_of_wide 3 Tryz.f3 rfl rfl rfl rfl rfl rfl rfl ⟨rfl, rfl, rfl, rfl, rfl⟩ rfl rfl rfl rfl rfl (by kernel_rfl) Tryz.func3 (by kernel_rfl)
  (of_decide_eq_true (by kernel_rfl)) (by unfold Func.isWrapper; first | (rw [if_pos (by decide +kernel)]; kernel_rfl) | (rw [if_neg (by decide +kernel)]; exact ⟨rfl, rfl⟩))
  (fun os started H enc _ => lifted os started H enc)
theorem proved : Rows.FnSgKeyDictSaid := over
theorem Dt : Rows.FnSgKeyDictCardSaid :=
 Claim7.holds_tied_plain_at .later [] [.data, .sentinel, .sentinel, .pinned] true (true, "121d7ee7f0fad305de8fcb6da79cc094dd3129c37a5ee805f4b6fb67601d918f") true
  proved (fun _ h => by cases h) (by kernel_rfl) (fun _ h => by cases h) fnSgKeyDict_row_tie rfl ⟨rfl, rfl⟩ (by kernel_rfl) rfl
  (fun f fn hf hfn => by
    obtain rfl : f = 3 := Option.some.inj ((show Tryz.prog.funcNamed "pub-barouche/laws.FnSgKeyDict" = some 3 by kernel_rfl).symm.trans hf) |>.symm
    obtain rfl : fn = Tryz.f3 := (Option.some.inj (Tryz.func3.symm.trans hfn)).symm
    exact ⟨by kernel_rfl, fun j t ht => by
     rw [Tryz.params3] at ht
     have hm : t ∈ [25, 25, 4] := by simpa using Array.mem_of_getElem? ht
     have hall : ([25, 25, 4].all fun u => !Tryz.prog.wantsStandIn u) = true := by kernel_rfl
     exact (show Tryz.prog.wantsStandIn t = false by simpa using List.all_eq_true.1 hall t hm)⟩)
  (by kernel_rfl)
#print axioms Dt
end Go.Proofs.YtkdebhgccpfkiaaGreatDoor.fnSgKeyDict
namespace Go.Proofs.YtkdebhgccpfkiaaGreatDoor
/-- The tied card, under a short name, for the claim. -/
theorem fnSgKeyDict_holds : Rows.FnSgKeyDictCardSaid := fnSgKeyDict.Dt
end Go.Proofs.YtkdebhgccpfkiaaGreatDoor
