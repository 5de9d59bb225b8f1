/- What EscapeBusAddressValue writes, UnescapeBusAddressValue reads back. -/
import Derived.Test.YtpgpkdickcdlpaaMFnAdBacke
import Derived.Test.YtpgpkdickcdlpaaMFnAdBacku
namespace Go.Proofs.Ytpgpkdickcdlpaa.Pure
open Go Go.RowKit Go.Proofs.Ytpgpkdickcdlpaa.MFnAdBack Go.Proofs.YtpgpkdickcdlpaaW.PrintWords Go.Proofs.YtpgpkdickcdlpaaW.PrintLast Go.Proofs.YtpgpkdickcdlpaaW.PrintMore Go.Proofs.Ytpgpkdickcdlpaa.Hlp
set_option linter.unusedVariables false
open Go.Proofs.Ytpgpkdickcdlpaa.MFnAdBacke (nd hi lo enc esc esc_nil esc_cons nums_back esc_len cnt_le)
open Go.Proofs.Ytpgpkdickcdlpaa.MFnAdBacku (un un_plain un_esc hex two told)

def b8 (n : Int) : UInt8 := UInt8.ofNat n.toNat
theorem dig_fin : ∀ n : Fin 256, nd (UInt8.ofNat n.val) = true → (hex (b8 (hi (UInt8.ofNat n.val)))).2 = true ∧ (hex (b8 (lo (UInt8.ofNat n.val)))).2 = true ∧ two (b8 (hi (UInt8.ofNat n.val))) (b8 (lo (UInt8.ofNat n.val))) = (n.val : Int) := by decide +kernel
theorem dig (c : UInt8) (h : nd c = true) : (hex (b8 (hi c))).2 = true ∧ (hex (b8 (lo c))).2 = true ∧ two (b8 (hi c)) (b8 (lo c)) = (c.toNat : Int) := by
  have := dig_fin ⟨c.toNat, c.toNat_lt⟩
  simp only [UInt8.ofNat_toNat] at this
  exact this h
theorem nd_37 : nd 37 = true := by decide +kernel
theorem back : ∀ l : List UInt8, un ((esc l).map b8) = some (l.map fun c => (c.toNat : Int))
  | [] => by rw [esc_nil]; rfl
  | c :: r => by
    rw [esc_cons, List.map_append, enc]
    by_cases h : nd c = true
    · obtain ⟨d1, d2, d3⟩ := dig c h
      rw [if_pos h]
      show un (37 :: b8 (hi c) :: b8 (lo c) :: (esc r).map b8) = _
      rw [un_esc, if_pos d1, if_pos d2, d3, back r]; rfl
    · rw [if_neg h]
      have h37 : c ≠ 37 := by intro q; rw [q] at h; exact h nd_37
      have e : b8 (c.toNat : Int) = c := by simp [b8]
      show un (b8 (c.toNat : Int) :: (esc r).map b8) = _
      rw [e, un_plain h37, back r]; rfl
theorem bl_nums (xs : List Int) : bl (strOfNums xs) = xs.map b8 := by simp [bl, strOfNums, b8]

theorem FnAdBack : laws_FnAdBack.Pure := by
  intro s hs
  apply Ev.rounds
  unfold laws_FnAdBack.f
  by_cases h1 : (s.size : Int) > 2147483647
  · exact ev_ite_pos h1 (fun _ => rfl) (Ev.now _)
  refine ev_ite_neg h1 (fun _ => rfl) ?_
  by_cases h2 : (s.size : Int) > 4096
  · exact ev_ite_pos h2 (fun _ => rfl) (Ev.now _)
  refine ev_ite_neg h2 (fun _ => rfl) ?_
  have hA := Go.Proofs.Ytpgpkdickcdlpaa.MFnAdBacke.escape s (by omega)
  have hl := esc_len (bl s)
  have hc := cnt_le (bl s)
  rw [bl_len] at hl hc
  have hB := Go.Proofs.Ytpgpkdickcdlpaa.MFnAdBacku.unescape (strOfNums (esc (bl s))) (by rw [strOfNums_size]; omega)
  rw [bl_nums, back] at hB
  have e : told (some ((bl s).map fun c => (c.toNat : Int))) = (s, true) := by rw [told, nums_back]
  rw [e] at hB
  refine Ev.bind hA (Ev.bind hB (ev_ite_pos rfl (fun _ => rfl) ?_))
  have : (s.toList == s.toList) = true := by simp
  rw [this]; exact Ev.now _

end Go.Proofs.Ytpgpkdickcdlpaa.Pure
