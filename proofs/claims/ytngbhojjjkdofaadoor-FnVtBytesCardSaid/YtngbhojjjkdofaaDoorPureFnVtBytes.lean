/- A byte string's text is read as the bytes that it stands for. -/
import Derived.Test.YtngbhojjjkdofaaDoorMFnVtBytesx8
import Derived.Test.YtngbhojjjkdofaaDoorVtBo
namespace Go.Proofs.YtngbhojjjkdofaaDoor.Pure
open Go Go.RowKit Go.Proofs.YtngbhojjjkdofaaDoor.MFnVtBytes Go.Proofs.YtngbhojjjkdofaaDoorW.PrintWords Go.Proofs.YtngbhojjjkdofaaDoorW.PrintLast Go.Proofs.YtngbhojjjkdofaaDoor.Hlp
set_option linter.unusedVariables false

theorem in_j (a0 m : ByteArray) (mk : UInt8) (hm : bl m = [mk]) (hmk : mk ≠ 92) (h : a0.size ≤ 2147483647) :
    ∃ r, Ev (fun k => laws_vtInside.j0 k a0 m) ((m ++ a0) ++ m, r) ∧ (r = true → nd (bl a0)) := by
  have hms : m.size = 1 := by rw [← bl_len, hm]; rfl
  have hs : ((m ++ a0) ++ m).size = a0.size + 2 := by rw [ByteArray.size_append, ByteArray.size_append]; omega
  have hd : (bl ((m ++ a0) ++ m)).drop 1 = bl a0 ++ [mk] := by rw [bl_append, bl_append, hm]; rfl
  obtain ⟨r, hr, hn⟩ := in_loop ((m ++ a0) ++ m) m mk hm hmk (by omega) _ (bl a0) 1 (Nat.le_refl _) hd
  refine ⟨r, Ev.step (fun k => ?_) hr, hn⟩
  simp only [laws_vtInside.j0]
  rw [if_pos (by omega), if_pos (by rw [ByteArray.size_append]; omega)]
  rfl
theorem in_f (a0 : ByteArray) (a1 : Bool) (h : a0.size ≤ 2147483647) :
    ∃ (m : ByteArray) (mk : UInt8) (r : Bool), bl m = [mk] ∧ Ev (fun k => laws_vtInside.f k a0 a1) ((m ++ a0) ++ m, r) ∧ (r = true → nd (bl a0)) := by
  cases a1 with
  | true =>
    obtain ⟨r, hr, hn⟩ := in_j a0 ⟨#[34]⟩ 34 rfl (by decide) h
    exact ⟨⟨#[34]⟩, 34, r, rfl, Ev.congr (fun k => by unfold laws_vtInside.f; rw [if_pos rfl]) hr, hn⟩
  | false =>
    obtain ⟨r, hr, hn⟩ := in_j a0 ⟨#[39]⟩ 39 rfl (by decide) h
    exact ⟨⟨#[39]⟩, 39, r, rfl, Ev.congr (fun k => by unfold laws_vtInside.f; rw [if_neg (by simp)]) hr, hn⟩
theorem one_f : impl_VtBytes.f (⟨#[98, 39, 39]⟩ : ByteArray) = some (strOfNums [0], true) := by
  unfold impl_VtBytes.f
  rw [if_pos (by decide), if_neg (by decide)]
  rw [show ((⟨#[98, 39, 39]⟩ : ByteArray).data.toList.drop 2).take ((⟨#[98, 39, 39]⟩ : ByteArray).size - 3) = [] from rfl, pgo_nil]
  rfl
theorem one_l : (strOfNums [0]).toList = ([0] : List UInt8) := by
  rw [ByteArray.toList_eq]
  rfl
theorem FnVtBytes : laws_FnVtBytes.Pure := by
  intro a0 a1 hb
  by_cases hbig : (a0.size : Int) > 2147483647
  · exact ⟨0, by unfold laws_FnVtBytes.f; rw [if_pos hbig]⟩
  obtain ⟨m, mk, r, hm, ⟨K1, a1'⟩, hn⟩ := in_f a0 a1 (by omega)
  have hms : m.size = 1 := by rw [← bl_len, hm]; rfl
  have hs : ((m ++ a0) ++ m).size = a0.size + 2 := by rw [ByteArray.size_append, ByteArray.size_append]; omega
  have true_j : ∀ k x, laws_FnVtBytes.j0 (k + 1) x true = some true := fun k x => by simp only [laws_FnVtBytes.j0]; rw [if_pos trivial]
  by_cases hr : r = true
  · by_cases hbig2 : ((((m ++ a0) ++ m).size : Nat) : Int) > 4096
    · refine ⟨K1 + 1, ?_⟩
      have b1 : laws_vtInside.f (K1 + 1) a0 a1 = some ((m ++ a0) ++ m, r) := a1' (K1 + 1) (by omega)
      unfold laws_FnVtBytes.f
      rw [if_neg hbig, b1, Option.bind_some]
      simp only
      rw [if_pos hr, decide_eq_true hbig2, true_j]
    · have hsz : ((⟨#[98]⟩ : ByteArray) ++ ((m ++ a0) ++ m)).size = a0.size + 3 := by rw [ByteArray.size_append, hs]; show 1 + _ = _; omega
      have hbl : bl ((⟨#[98]⟩ : ByteArray) ++ ((m ++ a0) ++ m)) = 98 :: mk :: (bl a0 ++ [mk]) := by rw [bl_append, bl_append, bl_append, hm]; rfl
      obtain ⟨o, ho, K2, a2⟩ := bo_main (a := (⟨#[98]⟩ : ByteArray) ++ ((m ++ a0) ++ m)) (E := a0.size + 2) (by omega) (by omega) mk _ (bl a0) [] 2 (Nat.le_refl _) (by rw [hbl]; rfl) (hn hr) (by simp)
      have him : impl_VtBytes.f ((⟨#[98]⟩ : ByteArray) ++ ((m ++ a0) ++ m)) = some (resO o) := by
        unfold impl_VtBytes.f
        have hin : (((⟨#[98]⟩ : ByteArray) ++ ((m ++ a0) ++ m)).data.toList.drop 2).take (((⟨#[98]⟩ : ByteArray) ++ ((m ++ a0) ++ m)).size - 3) = bl a0 := by
          rw [hsz]
          show ((bl ((⟨#[98]⟩ : ByteArray) ++ ((m ++ a0) ++ m))).drop 2).take _ = _
          rw [hbl]
          show (bl a0 ++ [mk]).take (a0.size + 3 - 3) = _
          rw [List.take_append_of_le_length (by rw [bl_len]; omega), List.take_of_length_le (by rw [bl_len]; omega)]
        rw [if_pos (by omega), if_neg (by omega), hin, ho]
        cases o <;> rfl
      refine ⟨K1 + K2 + 2, ?_⟩
      have b1 : laws_vtInside.f (K1 + K2 + 2) a0 a1 = some ((m ++ a0) ++ m, r) := a1' _ (by omega)
      have b2 : spec_BytesOf.l0 (K1 + K2 + 1) ((⟨#[98]⟩ : ByteArray) ++ ((m ++ a0) ++ m)) [] ((a0.size + 2 : Nat) : Int) ((2 : Nat) : Int) = some (resO o) := a2 (K1 + K2 + 1) (by omega)
      unfold laws_FnVtBytes.f
      rw [if_neg hbig, b1, Option.bind_some]
      simp only
      rw [if_pos hr, decide_eq_false hbig2]
      simp only [laws_FnVtBytes.j0]
      rw [if_neg (by simp), if_pos (by omega)]
      unfold spec_BytesOf.f
      rw [show wrap64 ((((⟨#[98]⟩ : ByteArray) ++ ((m ++ a0) ++ m)).size : Int) - 1) = ((a0.size + 2 : Nat) : Int) by rw [hsz, w64 (by omega) (by omega)]; omega]
      rw [show (2 : Int) = ((2 : Nat) : Int) from rfl, b2, Option.bind_some, him, Option.bind_some, one_f, Option.bind_some]
      rw [if_pos (by simp)]
      have hone : ((strOfNums [0]).toList == ([0] : List UInt8)) = true := by rw [one_l]; rfl
      by_cases ht : (resO o).2 = true
      · rw [if_pos ht, if_pos rfl, if_pos rfl, hone]
      · rw [if_neg ht, if_pos rfl, hone]
  · refine ⟨K1 + 1, ?_⟩
    have b1 : laws_vtInside.f (K1 + 1) a0 a1 = some ((m ++ a0) ++ m, r) := a1' (K1 + 1) (by omega)
    unfold laws_FnVtBytes.f
    rw [if_neg hbig, b1, Option.bind_some]
    simp only
    rw [if_neg hr, true_j]
end Go.Proofs.YtngbhojjjkdofaaDoor.Pure
