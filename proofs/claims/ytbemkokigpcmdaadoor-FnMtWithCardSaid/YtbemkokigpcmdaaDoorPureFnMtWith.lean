/- The options of match rules (kinds 0 to 9, arguments from 0 to 63, values of at most 4096 bytes) have the key of the D-Bus specification and the value; eavesdropping has "true" or "false"; of other inputs nothing is said. -/
import Derived.Test.YtbemkokigpcmdaaDoorMFnMtWithx5
import Derived.Test.YtbemkokigpcmdaaDoorHlp
import Derived.OpenShut
namespace Go.Proofs.YtbemkokigpcmdaaDoor.Pure
open Go Go.RowKit Go.Proofs.YtbemkokigpcmdaaDoor.MFnMtWith Go.Proofs.YtbemkokigpcmdaaDoorW.PrintWords Go.Proofs.YtbemkokigpcmdaaDoorW.PrintLast Go.Proofs.YtbemkokigpcmdaaDoor.Hlp
set_option linter.unusedVariables false

theorem ev_at {α : Type} {g : Nat → Option α} {r : α} (h : ∃ K, ∀ k, K ≤ k → g (k + 1) = some r) : Ev g r := by
  obtain ⟨K, h⟩ := h
  exact ⟨K + 1, fun n hn => by obtain ⟨m, rfl⟩ : ∃ m, n = m + 1 := ⟨n - 1, by omega⟩; exact h m (by omega)⟩
/-- A number from 0 to 63 in decimal digits. -/
def dec (n : Nat) : ByteArray := (strconv_FormatInt.f (n : Int) 10).getD ByteArray.empty
theorem dec_fin : ∀ n : Fin 64, ((strconv_FormatInt.f (n.val : Int) 10).isSome && decide ((dec n.val).size ≤ 2) && ((spec_Decimal.f 6 (n.val : Int)).map (fun s => s.data.toList) == some (dec n.val).data.toList)) = true := by decide +kernel
theorem dec_ok (n : Nat) (h : n ≤ 63) : strconv_FormatInt.f (n : Int) 10 = some (dec n) ∧ (dec n).size ≤ 2 ∧ Ev (fun k => spec_Decimal.f k (n : Int)) (dec n) := by
  have := dec_fin ⟨n, by omega⟩
  simp only [Bool.and_eq_true, decide_eq_true_eq, beq_iff_eq] at this
  obtain ⟨⟨h1, h2⟩, h3⟩ := this
  refine ⟨?_, h2, ?_⟩
  · obtain ⟨s, hs⟩ := Option.isSome_iff_exists.1 h1
    unfold dec
    rw [hs]
    rfl
  · obtain ⟨s, hs, he⟩ := Option.map_eq_some_iff.1 h3
    have : s = dec n := bl_ext he
    subst this
    exact Ev.of (fun k => spec_Decimal.mono _ _) hs
theorem itoa (n : Nat) (h : n ≤ 63) : strconv_Itoa_23.f (n : Int) = some (dec n) := by
  unfold strconv_Itoa_23.f strconv_Itoa_26.f
  rw [(dec_ok n h).1]
  rfl
def keys : List ByteArray := [(⟨#[115, 101, 110, 100, 101, 114]⟩ : ByteArray), (⟨#[105, 110, 116, 101, 114, 102, 97, 99, 101]⟩ : ByteArray), (⟨#[109, 101, 109, 98, 101, 114]⟩ : ByteArray), (⟨#[112, 97, 116, 104]⟩ : ByteArray), (⟨#[112, 97, 116, 104, 95, 110, 97, 109, 101, 115, 112, 97, 99, 101]⟩ : ByteArray), (⟨#[100, 101, 115, 116, 105, 110, 97, 116, 105, 111, 110]⟩ : ByteArray), (⟨#[]⟩ : ByteArray), (⟨#[]⟩ : ByteArray), (⟨#[97, 114, 103, 48, 110, 97, 109, 101, 115, 112, 97, 99, 101]⟩ : ByteArray), (⟨#[101, 97, 118, 101, 115, 100, 114, 111, 112]⟩ : ByteArray)]
def argB (n : Nat) : ByteArray := (⟨#[97, 114, 103]⟩ : ByteArray) ++ dec n
def keyB (a n : Nat) : ByteArray := if a = 6 then argB n else if a = 7 then argB n ++ (⟨#[112, 97, 116, 104]⟩ : ByteArray) else keys.getD a ByteArray.empty
def valB (a : Nat) (v : ByteArray) : ByteArray := if a = 9 then (if (v.toList == ([116, 114, 117, 101] : List UInt8)) = true then (⟨#[116, 114, 117, 101]⟩ : ByteArray) else (⟨#[102, 97, 108, 115, 101]⟩ : ByteArray)) else v
theorem w64u (n : Nat) (h : n ≤ 255) : IntKind.u64.wrap (n : Int) = (n : Int) := by
  have : IntKind.u64.wrap (n : Int) = (n : Int) % 18446744073709551616 := by simp [IntKind.wrap, IntKind.signed, IntKind.bits]
  rw [this]; omega
theorem spec_key (a n : Nat) (ha : a ≤ 9) (hn : n ≤ 63) : Ev (fun k => laws_mtKeyOf.f k (a : Int) (n : Int)) (keyB a n) := by
  obtain ⟨_, hs, he⟩ := dec_ok n hn
  have s1 : (⟨#[97, 114, 103]⟩ : ByteArray).size = 3 := rfl
  obtain ⟨K, hk⟩ := he
  refine ⟨K, fun k h => ?_⟩
  have b : spec_Decimal.f k (n : Int) = some (dec n) := hk k h
  show laws_mtKeyOf.f k (a : Int) (n : Int) = some (keyB a n)
  unfold laws_mtKeyOf.f
  by_cases h6 : a = 6
  · subst h6
    rw [if_pos (by decide), w64u n (by omega), b, Option.bind_some, if_pos (by omega)]
    rfl
  by_cases h7 : a = 7
  · subst h7
    rw [if_neg (by decide), if_pos (by decide), w64u n (by omega), b, Option.bind_some, if_pos (by omega), if_pos (by rw [ByteArray.size_append, s1]; omega)]
    rfl
  rw [if_neg (by omega), if_neg (by omega), Option.bind_some, if_pos (by omega), if_pos (by simp; omega)]
  unfold keyB
  rw [if_neg h6, if_neg h7]
  rfl
theorem impl_key (a n : Nat) (v : ByteArray) (ha : a ≤ 9) (hn : n ≤ 63) : Ev (fun k => impl_MtWith.f k (a : Int) (n : Int) v) (keyB a n, valB a v, true) := by
  have hi := itoa n hn
  obtain ⟨_, hs, _⟩ := dec_ok n hn
  have s1 : (⟨#[97, 114, 103]⟩ : ByteArray).size = 3 := rfl
  suffices h : Ev (fun k => impl_option.f k (a : Int) (n : Int) v) (keyB a n, valB a v) by
    obtain ⟨K, hk⟩ := h
    refine ⟨K, fun k h => ?_⟩
    have b : impl_option.f k (a : Int) (n : Int) v = some (keyB a n, valB a v) := hk k h
    show impl_MtWith.f k (a : Int) (n : Int) v = _
    unfold impl_MtWith.f impl_with.f
    rw [b]
    rfl
  have h6 : Ev (fun k => dbus_WithMatchArg.f k (n : Int) v) (argB n, v) := by
    refine ev_at ⟨0, fun k _ => ?_⟩
    unfold dbus_WithMatchArg.f
    have d : decide ((n : Int) > 63) = false := decide_eq_false (by omega)
    rw [if_neg (by omega), d]
    simp only [dbus_WithMatchArg.j0]
    rw [if_neg (by decide), hi, Option.bind_some, if_pos (by omega)]
    rfl
  have h7 : Ev (fun k => dbus_WithMatchArgPath.f k (n : Int) v) (argB n ++ (⟨#[112, 97, 116, 104]⟩ : ByteArray), v) := by
    refine ev_at ⟨0, fun k _ => ?_⟩
    unfold dbus_WithMatchArgPath.f
    have d : decide ((n : Int) > 63) = false := decide_eq_false (by omega)
    rw [if_neg (by omega), d]
    simp only [dbus_WithMatchArgPath.j0]
    rw [if_neg (by decide), hi, Option.bind_some, if_pos (by omega), if_pos (by rw [ByteArray.size_append, s1]; omega)]
    rfl
  obtain ⟨K6, g6⟩ := h6
  obtain ⟨K7, g7⟩ := h7
  refine ⟨K6 + K7, fun k h => ?_⟩
  have b6 : dbus_WithMatchArg.f k (n : Int) v = some (argB n, v) := g6 k (by omega)
  have b7 : dbus_WithMatchArgPath.f k (n : Int) v = some (argB n ++ (⟨#[112, 97, 116, 104]⟩ : ByteArray), v) := g7 k (by omega)
  show impl_option.f k (a : Int) (n : Int) v = some (keyB a n, valB a v)
  unfold impl_option.f
  rcases (by omega : a = 0 ∨ a = 1 ∨ a = 2 ∨ a = 3 ∨ a = 4 ∨ a = 5 ∨ a = 6 ∨ a = 7 ∨ a = 8 ∨ a = 9) with rfl | rfl | rfl | rfl | rfl | rfl | rfl | rfl | rfl | rfl
  · rw [if_pos (by decide)]; rfl
  · rw [if_neg (by decide), if_pos (by decide)]; rfl
  · rw [if_neg (by decide), if_neg (by decide), if_pos (by decide)]; rfl
  · rw [if_neg (by decide), if_neg (by decide), if_neg (by decide), if_pos (by decide)]; rfl
  · rw [if_neg (by decide), if_neg (by decide), if_neg (by decide), if_neg (by decide), if_pos (by decide)]; rfl
  · rw [if_neg (by decide), if_neg (by decide), if_neg (by decide), if_neg (by decide), if_neg (by decide), if_pos (by decide)]; rfl
  · rw [if_neg (by decide), if_neg (by decide), if_neg (by decide), if_neg (by decide), if_neg (by decide), if_neg (by decide), if_pos (by decide), b6]; rfl
  · rw [if_neg (by decide), if_neg (by decide), if_neg (by decide), if_neg (by decide), if_neg (by decide), if_neg (by decide), if_neg (by decide), if_pos (by decide), b7]; rfl
  · rw [if_neg (by decide), if_neg (by decide), if_neg (by decide), if_neg (by decide), if_neg (by decide), if_neg (by decide), if_neg (by decide), if_neg (by decide), if_pos (by decide)]; rfl
  · rw [if_neg (by decide), if_neg (by decide), if_neg (by decide), if_neg (by decide), if_neg (by decide), if_neg (by decide), if_neg (by decide), if_neg (by decide), if_neg (by decide), if_pos (by decide)]
    unfold dbus_WithMatchEavesdrop.f strconv_FormatBool_24.f strconv_FormatBool_27.f dbus_WithMatchOption.f valB
    rw [if_pos rfl]
    cases (v.toList == ([116, 114, 117, 101] : List UInt8)) <;> rfl
theorem FnMtWith : laws_FnMtWith.Pure := by
  intro kind n v hk hn _
  have hk := bounds_u8 hk
  have hn := bounds_u8 hn
  obtain ⟨a, rfl⟩ : ∃ a : Nat, kind = (a : Int) := ⟨kind.toNat, by omega⟩
  obtain ⟨m, rfl⟩ : ∃ m : Nat, n = (m : Int) := ⟨n.toNat, by omega⟩
  suffices h : Ev (fun k => laws_FnMtWith.f k (a : Int) (m : Int) v) true from h.rounds
  have yes : Ev (fun k => laws_FnMtWith.j0 k (a : Int) (m : Int) v true) true := Ev.step (f := fun _ => some true) (fun k => by simp only [laws_FnMtWith.j0]; rw [if_pos trivial]) (Ev.now _)
  unfold laws_FnMtWith.f
  by_cases c1 : (v.size : Int) > 2147483647
  · exact Ev.congr (fun k => by rw [if_pos c1]) (Ev.now _)
  by_cases c2 : (a : Int) > 9
  · exact Ev.congr (fun k => by rw [if_neg c1, if_pos c2]) yes
  by_cases c3 : (m : Int) > 63
  · exact Ev.congr (fun k => by rw [if_neg c1, if_neg c2, if_pos c3]) yes
  by_cases c4 : (v.size : Int) > 4096
  · exact Ev.congr (fun k => by rw [if_neg c1, if_neg c2, if_neg c3, decide_eq_true c4]) yes
  obtain ⟨K1, g1⟩ := impl_key a m v (by omega) (by omega)
  obtain ⟨K2, g2⟩ := spec_key a m (by omega) (by omega)
  have wa : wrap64 (a : Int) = (a : Int) := w64 (by omega) (by omega)
  have wm : wrap64 (m : Int) = (m : Int) := w64 (by omega) (by omega)
  have hj : Ev (fun k => laws_FnMtWith.j0 k (a : Int) (m : Int) v false) true := by
    by_cases h9 : a = 9
    · subst h9
      refine ev_at ⟨K1 + K2 + 1, fun k h => ?_⟩
      obtain ⟨j, rfl⟩ : ∃ j, k = j + 1 := ⟨k - 1, by omega⟩
      have b1 : impl_MtWith.f j 9 (m : Int) v = some (keyB 9 m, valB 9 v, true) := g1 j (by omega)
      have b2 : laws_mtKeyOf.f j 9 (m : Int) = some (keyB 9 m) := g2 j (by omega)
      have w9 : wrap64 (9 : Int) = 9 := w64 (by omega) (by omega)
      simp only [laws_FnMtWith.j0]
      rw [if_neg (by decide), if_pos (by decide)]
      simp only [laws_FnMtWith.j1]
      show (if (v.toList != ([116, 114, 117, 101] : List UInt8)) = true then _ else _) = _
      have e9 : ((9 : Nat) : Int) = 9 := rfl
      rw [e9, w9, wm, b1, b2]
      simp only [Option.bind_some, if_true]
      have ev : valB 9 v = (if (v.toList == ([116, 114, 117, 101] : List UInt8)) = true then (⟨#[116, 114, 117, 101]⟩ : ByteArray) else (⟨#[102, 97, 108, 115, 101]⟩ : ByteArray)) := rfl
      by_cases ht : v.toList = ([116, 114, 117, 101] : List UInt8)
      · have e1 : (v.toList != ([116, 114, 117, 101] : List UInt8)) = false := by rw [ht]; rfl
        have e2 : (v.toList == ([116, 114, 117, 101] : List UInt8)) = true := by rw [ht]; rfl
        rw [if_neg (by rw [e1]; decide), ev, if_pos e2, ht, toList_bl]
        rfl
      · have e1 : (v.toList != ([116, 114, 117, 101] : List UInt8)) = true := bne_iff_ne.2 ht
        have e2 : ¬ (v.toList == ([116, 114, 117, 101] : List UInt8)) = true := by rw [beq_iff_eq]; exact ht
        rw [if_pos e1, ev, if_neg e2, toList_bl]
        rfl
    · refine ev_at ⟨K1 + K2 + 1, fun k h => ?_⟩
      obtain ⟨j, rfl⟩ : ∃ j, k = j + 1 := ⟨k - 1, by omega⟩
      have b1 : impl_MtWith.f j (a : Int) (m : Int) v = some (keyB a m, v, true) := by
        have := g1 j (by omega)
        rw [show valB a v = v from if_neg h9] at this
        exact this
      have b2 : laws_mtKeyOf.f j (a : Int) (m : Int) = some (keyB a m) := g2 j (by omega)
      simp only [laws_FnMtWith.j0]
      rw [if_neg (by decide), if_neg (by omega)]
      simp only [laws_FnMtWith.j1]
      rw [if_neg (by decide), wa, wm, b1, b2]
      simp
  exact Ev.congr (fun k => by rw [if_neg c1, if_neg c2, if_neg c3, decide_eq_false c4]) hj

end Go.Proofs.YtbemkokigpcmdaaDoor.Pure
