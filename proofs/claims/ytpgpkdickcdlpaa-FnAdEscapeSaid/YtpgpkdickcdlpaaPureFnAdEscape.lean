/- EscapeBusAddressValue writes a text as the D-Bus specification says. -/
import Derived.Test.YtpgpkdickcdlpaaMFnAdEscapee
namespace Go.Proofs.Ytpgpkdickcdlpaa.Pure
open Go Go.RowKit Go.Proofs.Ytpgpkdickcdlpaa.MFnAdEscape Go.Proofs.YtpgpkdickcdlpaaW.PrintWords Go.Proofs.YtpgpkdickcdlpaaW.PrintLast Go.Proofs.YtpgpkdickcdlpaaW.PrintMore Go.Proofs.Ytpgpkdickcdlpaa.Hlp Go.Proofs.Ytpgpkdickcdlpaa.MFnAdEscapee
set_option linter.unusedVariables false

theorem plain_fin : ∀ n : Fin 256, spec_plainByte.f (n.val : Int) = some (!(nd (UInt8.ofNat n.val))) := by decide +kernel
theorem plain_f (c : UInt8) : spec_plainByte.f (c.toNat : Int) = some (!(nd c)) := by
  have := plain_fin ⟨c.toNat, c.toNat_lt⟩
  simpa using this
theorem dig_fin : ∀ n : Fin 256, 0 ≤ (n.val : Int) / 16 ∧ (n.val : Int) / 16 < 16 ∧ 0 ≤ Go.bits .and .u8 (n.val : Int) 15 ∧ Go.bits .and .u8 (n.val : Int) 15 < 16 ∧
    bt (⟨#[48, 49, 50, 51, 52, 53, 54, 55, 56, 57, 97, 98, 99, 100, 101, 102]⟩ : ByteArray) ((n.val : Int) / 16) = hi (UInt8.ofNat n.val) ∧ bt (⟨#[48, 49, 50, 51, 52, 53, 54, 55, 56, 57, 97, 98, 99, 100, 101, 102]⟩ : ByteArray) (Go.bits .and .u8 (n.val : Int) 15) = lo (UInt8.ofNat n.val) := by decide +kernel
theorem dig (c : UInt8) : 0 ≤ (c.toNat : Int) / 16 ∧ (c.toNat : Int) / 16 < 16 ∧ 0 ≤ Go.bits .and .u8 (c.toNat : Int) 15 ∧ Go.bits .and .u8 (c.toNat : Int) 15 < 16 ∧
    bt (⟨#[48, 49, 50, 51, 52, 53, 54, 55, 56, 57, 97, 98, 99, 100, 101, 102]⟩ : ByteArray) ((c.toNat : Int) / 16) = hi c ∧ bt (⟨#[48, 49, 50, 51, 52, 53, 54, 55, 56, 57, 97, 98, 99, 100, 101, 102]⟩ : ByteArray) (Go.bits .and .u8 (c.toNat : Int) 15) = lo c := by
  have := dig_fin ⟨c.toNat, c.toNat_lt⟩
  simpa using this
theorem spec_l (s : ByteArray) (hs : s.size ≤ 100000) (d : Nat) : ∀ (i : Nat) (acc : List Int), s.size - i = d → i ≤ s.size → acc.length ≤ 3 * i → Ev (fun k => spec_EscapeAddress.l0 k s acc (i : Int)) (strOfNums (acc ++ esc ((bl s).drop i))) := by
  induction d using Nat.strongRecOn with
  | _ d ih =>
  intro i acc hd hi2 ha
  cases hc : (bl s).drop i with
  | nil =>
    have hnl : ¬ i < s.size := by
      have := congrArg List.length hc
      rw [List.length_drop, bl_len] at this
      simp at this; omega
    rw [esc_nil, List.append_nil]
    refine Ev.step (f := fun _ => some (strOfNums acc)) (fun k => ?_) (Ev.now _)
    simp only [spec_EscapeAddress.l0]; rw [if_neg (by omega)]
  | cons c r =>
    have hlt := lt_drop hc
    have w1 : wrap64 ((i : Int) + 1) = ((i + 1 : Nat) : Int) := wj (by omega) (by omega)
    obtain ⟨d1, d2, d3, d4, d5, d6⟩ := dig c
    have h2 := ih (s.size - (i + 1)) (by omega) (i + 1) (acc ++ enc c) rfl (by omega) (by simp only [List.length_append, enc]; split <;> simp <;> omega)
    rw [next_drop hc, List.append_assoc, ← esc_cons] at h2
    refine Ev.step (fun k => ?_) h2
    simp only [spec_EscapeAddress.l0]
    rw [if_pos (by omega), if_pos (by omega), at_drop hc, plain_f, Option.bind_some]
    by_cases h : nd c = true
    · rw [enc, if_pos h, if_neg (by rw [h]; decide), if_pos d1, if_pos d2, if_pos d3, if_pos d4, d5, d6]
      simp only [Option.bind_some]
      rw [if_pos (by simp; omega), w1]
    · rw [enc, if_neg h, if_pos (by rw [Bool.eq_false_iff.mpr h]; rfl), if_pos (by omega), w1]

theorem FnAdEscape : laws_FnAdEscape.Pure := by
  intro s hs
  apply Ev.rounds
  unfold laws_FnAdEscape.f
  by_cases h1 : (s.size : Int) > 2147483647
  · exact ev_ite_pos h1 (fun _ => rfl) (Ev.now _)
  refine ev_ite_neg h1 (fun _ => rfl) ?_
  by_cases h2 : (s.size : Int) > 4096
  · exact ev_ite_pos h2 (fun _ => rfl) (Ev.now _)
  refine ev_ite_neg h2 (fun _ => rfl) ?_
  have hA := escape s (by omega)
  have hB := spec_l s (by omega) s.size 0 [] (by omega) (by omega) (by simp)
  rw [List.drop_zero, List.nil_append] at hB
  have hC := escape ⟨#[97]⟩ (by decide)
  have e : strOfNums (esc (bl ⟨#[97]⟩)) = ⟨#[97]⟩ := by
    have : esc (bl ⟨#[97]⟩) = [97] := by decide +kernel
    rw [this]; rfl
  rw [e] at hC
  have h97 : ((⟨#[97]⟩ : ByteArray).toList == ([97] : List UInt8)) = true := by rw [toList_bl]; rfl
  refine Ev.bind hA (Ev.bind (g := fun k => spec_EscapeAddress.f k s) hB (ev_ite_pos rfl (fun _ => rfl) (Ev.bind hC ?_)))
  rw [h97]; exact Ev.now _

end Go.Proofs.Ytpgpkdickcdlpaa.Pure
