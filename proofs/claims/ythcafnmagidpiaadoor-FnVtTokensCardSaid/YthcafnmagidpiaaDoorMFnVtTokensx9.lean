-- Written by a program of this session (myprint.py, out of the translation). Not trusted: Lean checks it.
import Derived.Test.YthcafnmagidpiaaDoorMFnVtTokensx0
import Derived.Test.YthcafnmagidpiaaDoorMFnVtTokensx8
namespace Go.Proofs.YthcafnmagidpiaaDoor.MFnVtTokens
open Go.RowKit Go.Proofs.YthcafnmagidpiaaDoorW.PrintWords Go.Proofs.YthcafnmagidpiaaDoorW.PrintLast Go.Proofs.YthcafnmagidpiaaDoorW.PrintMore
attribute [local go_sem] max2_int min2_int max_two min_two max_three min_three max_four min_four   -- for this text's walks alone
set_option linter.unusedVariables false
set_option linter.unusedSimpArgs false

/-! ### spec_typeNamed: function 22 -/
-- GIVENTEXT
def tnW : List (ByteArray × ByteArray) := [(⟨#[98, 111, 111, 108, 101, 97, 110]⟩, ⟨#[98]⟩), (⟨#[98, 121, 116, 101]⟩, ⟨#[121]⟩), (⟨#[105, 110, 116, 49, 54]⟩, ⟨#[110]⟩), (⟨#[117, 105, 110, 116, 49, 54]⟩, ⟨#[113]⟩), (⟨#[105, 110, 116, 51, 50]⟩, ⟨#[105]⟩),
  (⟨#[117, 105, 110, 116, 51, 50]⟩, ⟨#[117]⟩), (⟨#[105, 110, 116, 54, 52]⟩, ⟨#[120]⟩), (⟨#[117, 105, 110, 116, 54, 52]⟩, ⟨#[116]⟩), (⟨#[115, 116, 114, 105, 110, 103]⟩, ⟨#[115]⟩), (⟨#[111, 98, 106, 101, 99, 116, 112, 97, 116, 104]⟩, ⟨#[111]⟩)]
/-- The type of a word. -/
def tnF (s : List UInt8) : List (ByteArray × ByteArray) → ByteArray × Bool
  | [] => (⟨#[103]⟩, s == [115, 105, 103, 110, 97, 116, 117, 114, 101])
  | x :: r => if s = x.1.toList then (x.2, true) else tnF s r
def spec_typeNamed.f (k : Nat) (a0 : ByteArray) : Option (ByteArray × Bool) :=
  if a0.size = 0 then none
  else if bt a0 0 = 64 then (spec_Single.f k (a0.extract 1 a0.size)).bind fun b => some (a0.extract 1 a0.size, b)
  else some (tnF a0.toList tnW)
theorem spec_typeNamed.mono : ∀ a0 k, LeO (spec_typeNamed.f k a0) (spec_typeNamed.f (k + 1) a0) := by
  intro a0 k
  exact LeO.ite (LeO.refl _) (LeO.ite (LeO.bind (spec_Single.mono _ _) (fun _ => LeO.refl _)) (LeO.refl _))
def tnC : Array Value := (tnW.map fun x => Value.string x.1).toArray
def tnZ : Array Value := (List.replicate 10 (Value.string ⟨#[]⟩)).toArray
theorem info56t : (Tryd.prog.info? 56).map (fun i => (i.zero, i.size)) = some (some (.agg tnZ), 10) := by kernel_rfl
theorem tn_cell {w : World} {b i : Nat} (h : w.heap[b]? = some (.cells tnC 56 (0, 0))) (hi : i < 10) : w.cell? ⟨b, i, none⟩ = some (.string (tnW.getD i (⟨#[]⟩, ⟨#[]⟩)).1) := by
  rw [blk_cell h i]
  match i, hi with
  | 0, _ => rfl
  | 1, _ => rfl
  | 2, _ => rfl
  | 3, _ => rfl
  | 4, _ => rfl
  | 5, _ => rfl
  | 6, _ => rfl
  | 7, _ => rfl
  | 8, _ => rfl
  | 9, _ => rfl
theorem tn_let {i : Nat} (hi : i < 10) : (⟨#[98, 121, 110, 113, 105, 117, 120, 116, 115, 111]⟩ : ByteArray).extract i (i + 1) = (tnW.getD i (⟨#[]⟩, ⟨#[]⟩)).2 := by
  match i, hi with
  | 0, _ => rfl
  | 1, _ => rfl
  | 2, _ => rfl
  | 3, _ => rfl
  | 4, _ => rfl
  | 5, _ => rfl
  | 6, _ => rfl
  | 7, _ => rfl
  | 8, _ => rfl
  | 9, _ => rfl
theorem tn_drop {i : Nat} (hi : i < 10) : tnW.drop i = tnW.getD i (⟨#[]⟩, ⟨#[]⟩) :: tnW.drop (i + 1) := by
  match i, hi with
  | 0, _ => rfl
  | 1, _ => rfl
  | 2, _ => rfl
  | 3, _ => rfl
  | 4, _ => rfl
  | 5, _ => rfl
  | 6, _ => rfl
  | 7, _ => rfl
  | 8, _ => rfl
  | 9, _ => rfl
set_option maxHeartbeats 4000000 in
set_option maxRecDepth 100000 in
theorem spec_typeNamed.calls (k : Nat) (a0 : ByteArray) (r1 : ByteArray) (r2 : Bool) (w : World) (h : spec_typeNamed.f k a0 = some (r1, r2)) :
    Calls Tryd.prog 22 #[.string a0] w fun e w' => e = .returned (.tuple #[.string r1, .bool r2]) ∧ Below w.heap.size w w' := by
  unfold spec_typeNamed.f at h
  by_cases h0 : a0.size = 0
  · rw [if_pos h0] at h
    cases h
  · rw [if_neg h0] at h
    have hz : (0 : Int) < (a0.size : Int) := by omega
    have hi0 : ∀ h : 0 < a0.size, ((a0[0]'h).toNat : Int) = bt a0 0 := bt_at a0 0
    by_cases h1 : bt a0 0 = 64
    · rw [if_pos h1] at h
      obtain ⟨b, hb, h2⟩ := Option.bind_eq_some_iff.1 h
      simp only [Option.some.injEq, Prod.mk.injEq] at h2
      obtain ⟨rfl, rfl⟩ := h2
      have HS := Aside0.mk hb
      have b1 : (bt a0 0 == 64) = true := beq_iff_eq.2 h1
      have s1 : (1 : Int) ≤ (a0.size : Int) := by omega
      have s1n : 1 ≤ a0.size := by omega
      clear h h1 hb
      go_enter Tryd.func22, Tryd.ntmps22
      go_upto_region 2 with (fail)
      go_region_with (go_at_call 29; refine (spec_Single.calls k (a0.extract 1 a0.size) b _ HS.out).mono ?_; rintro e w2 ⟨rfl, hb2⟩; have HB : Aside0 (Below w.heap.size w w2) := ⟨below_step (by repeat (first | exact Below.refl _ _ | apply pw_below_drewN | apply below_drew1)) hb2⟩; clear hb2)
      all_goals
        go_wp2
        go_ret2
        exact ⟨rfl, by repeat (first | exact HB.out | apply pw_below_drewN | apply below_drew1)⟩
    · rw [if_neg h1] at h
      have b1 : (bt a0 0 == 64) = false := beq_eq_false_iff_ne.2 h1
      have HH := Aside0.mk (Option.some.inj h)
      clear h
      go_enter Tryd.func22, Tryd.ntmps22
      go_wp2
      go_loopg [5] 10 (fun kq v5 w' => ∃ i : Nat, i ≤ 10 ∧ v5 = .int .i64 (i : Int) ∧ Aside0 (kq = 10 - i ∧ w'.heap[w.heap.size]? = some (.cells tnC 56 (0, 0)) ∧ Below w.heap.size w w' ∧ tnF a0.toList tnW = tnF a0.toList (tnW.drop i)))
      case atStart => exact ⟨0, Nat.zero_le _, rfl, ⟨rfl, (by first | exact heap_alloc_new w _ | simpa using heap_alloc_new w _), below_alloc (Below.refl _ _) _, rfl⟩⟩
      case round =>
        obtain ⟨i, hi, rfl, HI⟩ := hrel
        by_cases hlt : i < 10
        · have hd1 : decide ((i : Int) < 10) = true := by simp; omega
          have hd2 : decide (i < 10) = true := by simp; omega
          have hj0 : (0 : Int) ≤ (i : Int) := by omega
          have hj1 : (i : Int) < 10 := by omega
          have hc := tn_cell HI.out.2.1 hlt
          have hwi : IntKind.i64.wrap ((i : Int) + 1) = ((i + 1 : Nat) : Int) := by rw [IntKind.wrap_i64]; omega
          have hdr := tn_drop hlt
          have hle := tn_let hlt
          obtain ⟨wi, hwi2⟩ : ∃ wi, tnW.getD i (⟨#[]⟩, ⟨#[]⟩) = wi := ⟨_, rfl⟩
          rw [hwi2] at hc hdr hle
          obtain ⟨wa, wb⟩ := wi
          simp only at hc hle
          obtain ⟨I1, hI1⟩ : ∃ I1, i + 1 = I1 := ⟨_, rfl⟩
          rw [hI1] at hwi hle hdr
          have HDR := Aside0.mk hdr
          have HLE := Aside0.mk hle
          have k0 : (i : Int) ≤ (I1 : Int) := by omega
          have k1 : (I1 : Int) ≤ 10 := by omega
          clear hwi2 hdr hle
          by_cases he : a0.toList = wa.toList
          · have be : (a0.toList == wa.toList) = true := beq_iff_eq.2 he
            have hr : (wb, true) = (r1, r2) := by
              rw [← HH.out, HI.out.2.2.2, HDR.out]
              simp only [tnF]
              rw [if_pos he]
            simp only [Prod.mk.injEq] at hr
            obtain ⟨rfl, rfl⟩ := hr
            go_wp2
            go_ret2
            exact ⟨by first | rfl | (rw [← HLE.out]; rfl), HI.out.2.2.1⟩
          · have be : (a0.toList == wa.toList) = false := beq_eq_false_iff_ne.2 he
            go_wp2
            go_roundg (10 - I1)
            case measure => have := HI.out.1; omega
            case rel =>
              refine ⟨I1, by omega, by first | rfl | simp, ⟨rfl, HI.out.2.1, HI.out.2.2.1, ?_⟩⟩
              rw [HI.out.2.2.2, HDR.out]
              simp only [tnF]
              rw [if_neg he]
        · have hi8 : i = 10 := by omega
          subst hi8
          have hr : ((⟨#[103]⟩ : ByteArray), a0.toList == [115, 105, 103, 110, 97, 116, 117, 114, 101]) = (r1, r2) := by
            rw [← HH.out, HI.out.2.2.2]
            rfl
          simp only [Prod.mk.injEq] at hr
          obtain ⟨rfl, rfl⟩ := hr
          go_wp2
          go_ret2
          exact ⟨rfl, HI.out.2.2.1⟩

end Go.Proofs.YthcafnmagidpiaaDoor.MFnVtTokens
