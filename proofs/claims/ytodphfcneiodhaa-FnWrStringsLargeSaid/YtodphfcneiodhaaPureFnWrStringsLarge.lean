/- Long texts, given to a string converter one by one, come back as they are, whatever room its buffer has (more than 20 texts are answered at once). -/
import Derived.Test.YtodphfcneiodhaaMFnWrStringsLargex3
import Derived.OpenShut
namespace Go.Proofs.Ytodphfcneiodhaa.Pure
open Go Go.RowKit Go.Proofs.Ytodphfcneiodhaa.MFnWrStringsLarge Go.Proofs.YtodphfcneiodhaaW.PrintWords Go.Proofs.YtodphfcneiodhaaW.PrintLast

theorem w64x {x : Int} (h1 : -9223372036854775808 ≤ x) (h2 : x ≤ 9223372036854775807) : wrap64 x = x := by unfold wrap64; omega
theorem place (i x1 : Int) (h0 : 0 ≤ i) (h1 : i ≤ 65535) (h2 : 0 ≤ x1) (h3 : x1 ≤ 255) :
    0 ≤ (Int.tmod (wrap64 ((wrap64 ((wrap64 (i + (wrap64 (Int.tdiv i 7)))) + (wrap64 (Int.tdiv i 257)))) + (wrap64 (x1)))) 36) ∧
    (Int.tmod (wrap64 ((wrap64 ((wrap64 (i + (wrap64 (Int.tdiv i 7)))) + (wrap64 (Int.tdiv i 257)))) + (wrap64 (x1)))) 36) < 36 := by
  have a : wrap64 (Int.tdiv i 7) = i / 7 := by rw [Int.tdiv_eq_ediv_of_nonneg h0]; exact w64x (by omega) (by omega)
  have b : wrap64 (Int.tdiv i 257) = i / 257 := by rw [Int.tdiv_eq_ediv_of_nonneg h0]; exact w64x (by omega) (by omega)
  rw [a, b, w64x (x := x1) (by omega) (by omega), w64x (x := i + i / 7) (by omega) (by omega), w64x (x := i + i / 7 + i / 257) (by omega) (by omega), w64x (x := i + i / 7 + i / 257 + x1) (by omega) (by omega)]
  rw [Int.tmod_eq_emod_of_nonneg (by omega)]
  omega
theorem long_loop (x1 : Int) (N : Nat) (h2 : 0 ≤ x1) (h3 : x1 ≤ 255) (hN : N ≤ 65535) : ∀ (d i : Nat) (x5 : List Int), d = N - i → i ≤ N → x5.length = N → ∃ s, Ev (fun k => laws_wrLong.l0 k x1 x5 (N : Int) (i : Int)) s
  | 0, i, x5, hd, hi, hl => ⟨_, Ev.step (f := fun _ => some (strOfNums x5)) (fun k => by simp only [laws_wrLong.l0]; rw [if_neg (by omega)]) (Ev.now _)⟩
  | d + 1, i, x5, hd, hi, hl => by
    obtain ⟨p1, p2⟩ := place (i : Int) x1 (by omega) (by omega) h2 h3
    have e : wrap64 ((i : Int) + 1) = ((i + 1 : Nat) : Int) := by rw [w64x (by omega) (by omega)]; omega
    obtain ⟨s, hs⟩ := long_loop x1 N h2 h3 hN d (i + 1) (x5.set ((i : Int)).toNat (bt (⟨#[97, 98, 99, 100, 101, 102, 103, 104, 105, 106, 107, 108, 109, 110, 111, 112, 113, 114, 115, 116, 117, 118, 119, 120, 121, 122, 48, 49, 50, 51, 52, 53, 54, 55, 56, 57]⟩ : ByteArray) (Int.tmod (wrap64 ((wrap64 ((wrap64 ((i : Int) + (wrap64 (Int.tdiv (i : Int) 7)))) + (wrap64 (Int.tdiv (i : Int) 257)))) + (wrap64 (x1)))) 36))) (by omega) (by omega) (by rw [List.length_set, hl])
    refine ⟨s, Ev.step (fun k => ?_) hs⟩
    simp only [laws_wrLong.l0]
    rw [if_pos (by omega), if_pos p1, if_pos p2, if_pos (by omega), if_pos (by omega), e]
theorem long_any (n c : Int) (h0 : 0 ≤ n) (h1 : n ≤ 65535) (h2 : 0 ≤ c) (h3 : c ≤ 255) : ∃ s, Ev (fun k => laws_wrLong.f k n c) s := by
  obtain ⟨N, rfl⟩ : ∃ N : Nat, n = (N : Int) := ⟨n.toNat, by omega⟩
  obtain ⟨s, hs⟩ := long_loop c N h2 h3 (by omega) N 0 (List.replicate ((N : Int)).toNat 0) (by omega) (by omega) (by simp)
  refine ⟨s, Ev.congr (fun k => ?_) hs⟩
  unfold laws_wrLong.f
  rw [if_pos (by omega), if_pos (by omega)]
  simp only [Option.bind_some, List.length_replicate, Int.toNat_natCast]
  rfl
theorem conv_same (l : List ByteArray) (n : Int) (h0 : 0 ≤ n) (h1 : n ≤ 65536) (hl : l.length < 8796093022208) : impl_WrStrings.f l n = some l := by
  unfold impl_WrStrings.f dbus_DoorConvert.f
  rw [if_pos h0, if_pos h1, if_pos hl]
  rfl
theorem same_loop (l : List ByteArray) (hl : l.length ≤ 20) : ∀ (d i : Nat), d = l.length - i → i ≤ l.length → Ev (fun k => laws_FnWrStringsLarge.l1 k l l (l.length : Int) (i : Int)) true
  | 0, i, hd, hi => Ev.step (f := fun _ => some true) (fun k => by simp only [laws_FnWrStringsLarge.l1]; rw [if_neg (by omega)]) (Ev.now _)
  | d + 1, i, hd, hi => by
    have e : wrap64 ((i : Int) + 1) = ((i + 1 : Nat) : Int) := by rw [w64x (by omega) (by omega)]; omega
    refine Ev.step (fun k => ?_) (same_loop l hl d (i + 1) (by omega) (by omega))
    simp only [laws_FnWrStringsLarge.l1]
    rw [if_pos (by omega), if_pos (by omega), if_pos (by omega), if_pos (by omega), e]
    simp
theorem law_loop (room fill : Int) (sizes : List Int) (hr0 : 0 ≤ room) (hr1 : room ≤ 65535) (hf0 : 0 ≤ fill) (hf1 : fill ≤ 255) (hs : ∀ x ∈ sizes, 0 ≤ x ∧ x ≤ 65535) (hl : sizes.length ≤ 20) :
    ∀ (d i : Nat) (texts : List ByteArray), d = sizes.length - i → i ≤ sizes.length → texts.length = i → Ev (fun k => laws_FnWrStringsLarge.l0 k room fill texts sizes (sizes.length : Int) (i : Int)) true
  | 0, i, texts, hd, hi, ht => by
    have c1 := conv_same texts (wrap64 room) (by rw [w64x (by omega) (by omega)]; exact hr0) (by rw [w64x (by omega) (by omega)]; omega) (by omega)
    have c2 := conv_same [(⟨#[97]⟩ : ByteArray)] 0 (by omega) (by omega) (by simp)
    refine Ev.step (f := fun k => laws_FnWrStringsLarge.j1 k texts texts false) (fun k => ?_) (Ev.step (fun k => ?_) (same_loop texts (by omega) texts.length 0 (by omega) (by omega)))
    · simp only [laws_FnWrStringsLarge.l0]
      rw [if_neg (by omega), c1, Option.bind_some, c2, Option.bind_some, if_pos rfl, if_pos (show ((([(⟨#[97]⟩ : ByteArray)] : List ByteArray).length : Nat) : Int) = 1 from rfl), if_pos (by decide)]
      have e : (rdOf ByteArray.empty [(⟨#[97]⟩ : ByteArray)] 0).toList = [97] := by rw [show rdOf ByteArray.empty [(⟨#[97]⟩ : ByteArray)] 0 = (⟨#[97]⟩ : ByteArray) from rfl, ByteArray.toList_eq]
      rw [e]
      rfl
    · simp only [laws_FnWrStringsLarge.j1]
      rw [if_neg (by decide)]
      rfl
  | d + 1, i, texts, hd, hi, ht => by
    have hin : i < sizes.length := by omega
    have hx := hs sizes[i] (List.getElem_mem hin)
    have er : rd sizes (i : Int) = sizes[i] := by simp [rd, List.getD, hin]
    obtain ⟨s, hsv⟩ := long_any (wrap64 (rd sizes (i : Int))) ((fill + ((i : Int) % 256)) % 256) (by rw [er, w64x (by omega) (by omega)]; exact hx.1) (by rw [er, w64x (by omega) (by omega)]; exact hx.2) (by omega) (by omega)
    have e : wrap64 ((i : Int) + 1) = ((i + 1 : Nat) : Int) := by rw [w64x (by omega) (by omega)]; omega
    have ih := law_loop room fill sizes hr0 hr1 hf0 hf1 hs hl d (i + 1) (texts ++ [s]) (by omega) (by omega) (by simp [ht])
    refine Ev.step (fun k => ?_) (Ev.bind (f := fun k t => if texts.length < 8796093022208 then laws_FnWrStringsLarge.l0 k room fill (texts ++ [t]) sizes (sizes.length : Int) ((i + 1 : Nat) : Int) else none) hsv (Ev.congr (fun k => by rw [if_pos (by omega)]) ih))
    simp only [laws_FnWrStringsLarge.l0]
    rw [if_pos (by omega), if_pos (by omega), if_pos (by omega), e]
theorem FnWrStringsLarge : laws_FnWrStringsLarge.Pure := by
  intro sizes room fill _ _ hs hr hf
  have hr := bounds_u16 hr
  have hf := bounds_u8 hf
  have hs : ∀ x ∈ sizes, 0 ≤ x ∧ x ≤ 65535 := fun x hx => bounds_u16 (hs x hx)
  unfold laws_FnWrStringsLarge.f
  by_cases h : (sizes.length : Int) > 20
  · refine ⟨0, ?_⟩
    simp [h]
  · obtain ⟨k, hk⟩ := (law_loop room fill sizes hr.1 hr.2 hf.1 hf.2 hs (by omega) sizes.length 0 [] (by omega) (by omega) rfl).rounds
    refine ⟨k, ?_⟩
    rw [if_neg (by omega), if_neg h]
    exact hk

end Go.Proofs.Ytodphfcneiodhaa.Pure
