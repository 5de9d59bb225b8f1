/- As many bytes as are asked for, read out of pieces, are the first ones of the pieces one behind the other. -/
import Derived.Test.YtodphfcneiodhaaDoorMFnWrFullx3
import Derived.Test.YtodphfcneiodhaaDoorHlp
import Derived.OpenShut
namespace Go.Proofs.YtodphfcneiodhaaDoor.Pure
open Go Go.RowKit Go.Proofs.YtodphfcneiodhaaDoor.MFnWrFull Go.Proofs.YtodphfcneiodhaaDoorW.PrintWords Go.Proofs.YtodphfcneiodhaaDoorW.PrintLast Go.Proofs.YtodphfcneiodhaaDoor.Hlp
set_option linter.unusedVariables false

theorem w64f {x : Int} (h1 : -9223372036854775808 ≤ x) (h2 : x ≤ 9223372036854775807) : wrap64 x = x := by unfold wrap64; omega
theorem rdF (l : List ByteArray) (i : Nat) (h : i < l.length) : rdOf ByteArray.empty l (i : Int) = l[i] := by
  simp [rdOf, List.getD, h]
theorem upF (i : Nat) (h : i ≤ 2147483647) : wrap64 ((i : Int) + 1) = ((i + 1 : Nat) : Int) := by rw [w64f (by omega) (by omega)]; omega
theorem fits5_loop (l : List ByteArray) (hl : l.length ≤ 2147483647) : ∀ (d i : Nat), d = l.length - i → i ≤ l.length →
    ∃ r, Ev (fun k => laws_zzFits5.l0 k l (l.length : Int) (i : Int)) r
  | 0, i, hd, hi => ⟨true, Ev.step (f := fun _ => some true) (fun k => by simp only [laws_zzFits5.l0]; rw [if_neg (by omega)]) (Ev.now _)⟩
  | d + 1, i, hd, hi => by
    have hin : i < l.length := by omega
    obtain ⟨r, hr⟩ := fits5_loop l hl d (i + 1) (by omega) (by omega)
    by_cases hf : (l[i].size : Int) > 2147483647
    · refine ⟨false, Ev.step (f := fun _ => some false) (fun k => ?_) (Ev.now _)⟩
      simp only [laws_zzFits5.l0]
      rw [if_pos (by omega), if_pos (by omega), if_pos (by omega), rdF l i hin, if_pos hf]
    · refine ⟨r, Ev.step (fun k => ?_) hr⟩
      simp only [laws_zzFits5.l0]
      rw [if_pos (by omega), if_pos (by omega), if_pos (by omega), rdF l i hin, if_neg hf, upF i (by omega)]
theorem fits5 (l : List ByteArray) : ∃ r, Ev (fun k => laws_zzFits5.f k l) r := by
  by_cases h : (l.length : Int) > 2147483647
  · exact ⟨false, Ev.congr (fun k => by unfold laws_zzFits5.f; rw [if_pos h]) (Ev.now _)⟩
  · obtain ⟨r, hr⟩ := fits5_loop l (by omega) l.length 0 (by omega) (by omega)
    exact ⟨r, Ev.congr (fun k => by unfold laws_zzFits5.f; rw [if_neg h]; rfl) hr⟩
theorem cat_app (a b : List ByteArray) : cat (a ++ b) = cat a ++ cat b := by simp [cat]
theorem full_f (l : List ByteArray) (m n : Nat) (hm : m ≤ 65535) (hn : n ≤ 65535) (hl : l.length ≤ 100) : impl_WrFull.f l (m : Int) (n : Int) = some (⟨(got n (cat l)).toArray⟩, decide (n ≤ (cat l).length)) := by
  unfold impl_WrFull.f
  rw [if_pos ⟨by omega, by omega, by omega, by omega, hl⟩]
  rfl
theorem full_one : impl_WrFull.f ([(⟨#[97, 98]⟩ : ByteArray), (⟨#[99]⟩ : ByteArray)] : List ByteArray) 1 3 = some (⟨(got 3 (cat [(⟨#[97, 98]⟩ : ByteArray), (⟨#[99]⟩ : ByteArray)])).toArray⟩, true) := by
  have := full_f [(⟨#[97, 98]⟩ : ByteArray), (⟨#[99]⟩ : ByteArray)] 1 3 (by omega) (by omega) (by simp)
  rw [show ((1 : Nat) : Int) = 1 from rfl, show ((3 : Nat) : Int) = 3 from rfl] at this
  rw [this]
  rfl
theorem full_end (k : Nat) (l : List ByteArray) (m n : Nat) (acc : ByteArray) (i : Int) (hi : ¬ i < (l.length : Int)) (hm : m ≤ 65535) (hn : n ≤ 65535) (hl : l.length ≤ 100) (ha : acc.data.toList = cat l) :
    laws_FnWrFull.l0 (k + 1) l (m : Int) (n : Int) acc i = some true := by
  simp only [laws_FnWrFull.l0]
  rw [if_neg hi, w64f (x := (m : Int)) (by omega) (by omega), w64f (x := (n : Int)) (by omega) (by omega), full_f l m n hm hn hl, full_one]
  simp only [Option.bind_some]
  have hs : acc.size = (cat l).length := by rw [← ha]; rfl
  have hd : decide ((n : Int) ≤ (acc.size : Int)) = decide (n ≤ (cat l).length) := by
    rw [hs]
    exact decide_eq_decide.2 (by omega)
  rw [if_pos trivial, hd, if_pos (by simp)]
  by_cases h : n ≤ (cat l).length
  · rw [decide_eq_true h, if_pos rfl, if_pos (by omega), if_pos (by omega)]
    congr 1
    rw [ByteArray.toList_eq, ByteArray.toList_eq, Lib.extract_data, ha]
    simp [got, Nat.sub_eq_zero_of_le h]
  · rw [decide_eq_false h, if_neg (by simp)]
theorem full_loop (l : List ByteArray) (m n : Nat) (hm : m ≤ 65535) (hn : n ≤ 65535) (hl : l.length ≤ 100) : ∀ (d i : Nat) (acc : ByteArray), d = l.length - i → i ≤ l.length → acc.data.toList = cat (l.take i) → acc.size ≤ 1024 * i →
    Ev (fun k => laws_FnWrFull.l0 k l (m : Int) (n : Int) acc (i : Int)) true
  | 0, i, acc, hd, hi, ha, hs => Ev.step (f := fun _ => some true) (fun k => full_end k l m n acc i (by omega) hm hn hl (by rw [ha, List.take_of_length_le (by omega)])) (Ev.now _)
  | d + 1, i, acc, hd, hi, ha, hs => by
    have hin : i < l.length := by omega
    by_cases hf : (l[i].size : Int) > 1024
    · refine Ev.step (f := fun _ => some true) (fun k => ?_) (Ev.now _)
      simp only [laws_FnWrFull.l0]
      rw [if_pos (by omega), if_pos (by omega), rdF l i hin, if_pos hf]
    · have hr := full_loop l m n hm hn hl d (i + 1) (acc ++ l[i]) (by omega) (by omega) (by
        rw [List.take_succ_eq_append_getElem hin]
        rw [ByteArray.data_append, Array.toList_append, ha]
        rw [cat_app, cat_cons, cat_nil, List.append_nil]) (by rw [ByteArray.size_append]; omega)
      refine Ev.step (fun k => ?_) hr
      simp only [laws_FnWrFull.l0]
      rw [if_pos (by omega), if_pos (by omega), rdF l i hin, if_neg hf, if_pos (by omega), upF i (by omega)]
theorem FnWrFull (l : List ByteArray) (x1 x2 : Int) (h1 : (Lit.int .u16 x1).wf = true) (h2 : (Lit.int .u16 x2).wf = true) : ∃ k, laws_FnWrFull.f k l x1 x2 = some true := by
  have g1 := bounds_u16 h1
  have g2 := bounds_u16 h2
  obtain ⟨m, rfl⟩ : ∃ m : Nat, x1 = (m : Int) := ⟨x1.toNat, by omega⟩
  obtain ⟨n, rfl⟩ : ∃ n : Nat, x2 = (n : Int) := ⟨x2.toNat, by omega⟩
  obtain ⟨r, K1, a1⟩ := fits5 l
  by_cases hr : r = true
  · by_cases hl : (l.length : Int) > 100
    · refine ⟨K1, ?_⟩
      unfold laws_FnWrFull.f
      have b1 : laws_zzFits5.f K1 l = some r := a1 K1 (Nat.le_refl _)
      rw [b1, Option.bind_some, if_pos hr, if_pos hl]
    · obtain ⟨K2, a2⟩ := full_loop l m n (by omega) (by omega) (by omega) l.length 0 ⟨#[]⟩ (by omega) (by omega) (by simp [cat]) (by show 0 ≤ _; omega)
      refine ⟨K1 + K2, ?_⟩
      unfold laws_FnWrFull.f
      have b1 : laws_zzFits5.f (K1 + K2) l = some r := a1 (K1 + K2) (by omega)
      have b2 : laws_FnWrFull.l0 (K1 + K2) l (m : Int) (n : Int) ⟨#[]⟩ 0 = some true := a2 (K1 + K2) (by omega)
      rw [b1, Option.bind_some, if_pos hr, if_neg hl, b2]
  · refine ⟨K1, ?_⟩
    unfold laws_FnWrFull.f
    have b1 : laws_zzFits5.f K1 l = some r := a1 K1 (Nat.le_refl _)
    rw [b1, Option.bind_some, if_neg hr]
end Go.Proofs.YtodphfcneiodhaaDoor.Pure
