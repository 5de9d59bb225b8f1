/- Small lemmas on bytes, texts and rounds, used by the plain proofs of this seat. -/
import Derived.Test.YthcafnmagidpiaaDoorWAll
import Derived.Lib.Strings
import Derived.Laws.RangeAny
namespace Go.Proofs.YthcafnmagidpiaaDoor.Hlp
open Go Go.RowKit Go.Proofs.YthcafnmagidpiaaDoorW.PrintWords Go.Proofs.YthcafnmagidpiaaDoorW.PrintLast
set_option linter.unusedVariables false

/-- A text's bytes. -/
def bl (s : ByteArray) : List UInt8 := s.data.toList
theorem bl_len (s : ByteArray) : (bl s).length = s.size := rfl
theorem bl_ext {s t : ByteArray} (h : bl s = bl t) : s = t := by
  cases s; cases t; simp only [bl] at h; congr 1; exact Array.toList_inj.mp h
theorem w64 {x : Int} (h1 : -9223372036854775808 ≤ x) (h2 : x ≤ 9223372036854775807) : wrap64 x = x := by unfold wrap64; omega
theorem toList_bl (s : ByteArray) : s.toList = bl s := ByteArray.toList_eq s
theorem bl_extract (s : ByteArray) (a b : Nat) : bl (s.extract a b) = ((bl s).drop a).take (b - a) := Lib.extract_data s a b
theorem bl_append (s t : ByteArray) : bl (s ++ t) = bl s ++ bl t := by simp [bl, ByteArray.data_append]
/-- A byte by its number in the list. -/
theorem bt_nat (s : ByteArray) (i : Nat) (h : i < (bl s).length) : bt s (i : Int) = (((bl s)[i]'h).toNat : Int) := by
  have hi : ((i : Int).toNat) < s.size := h
  have h2 : i < s.size := h
  unfold bt
  rw [dif_pos hi]
  simp only [Int.toNat_natCast]
  rfl
theorem bt_out (s : ByteArray) (i : Nat) (h : ¬ i < (bl s).length) : bt s (i : Int) = 0 := by
  have hi : ¬ ((i : Int).toNat) < s.size := h
  unfold bt
  rw [dif_neg hi]
theorem bt_getD (s : ByteArray) (i : Nat) : bt s (i : Int) = (((bl s).getD i 0).toNat : Int) := by
  by_cases h : i < (bl s).length
  · rw [bt_nat s i h]; simp [List.getD_eq_getElem?_getD, List.getElem?_eq_getElem h]
  · rw [bt_out s i h]; simp [List.getD_eq_getElem?_getD, List.getElem?_eq_none (Nat.not_lt.mp h)]
theorem bt_eq (s : ByteArray) (i : Nat) (h : i < s.size) : bt s (i : Int) = ((s[i]'h).toNat : Int) := (bt_at s (i : Int) h).symm
/-- A character of a text at a byte of ASCII is the byte; at another it is beyond ASCII. -/
theorem dec_lo (s : ByteArray) (i : Nat) (h : i < s.size) (hb : bt s (i : Int) < 128) : (((Utf8.decode s i).1 : Nat) : Int) = bt s (i : Int) ∧ (Utf8.decode s i).2 = 1 := by
  rw [bt_eq s i h] at hb ⊢
  rw [Go.decode_ascii s i h (by omega)]
  exact ⟨rfl, rfl⟩
theorem dec_hi (s : ByteArray) (i : Nat) (h : i < s.size) (hb : 128 ≤ bt s (i : Int)) : 128 ≤ (((Utf8.decode s i).1 : Nat) : Int) ∧ 1 ≤ (Utf8.decode s i).2 := by
  rw [bt_eq s i h] at hb
  have := Go.decode_high s i h (by omega)
  exact ⟨by omega, this.2⟩
theorem emp_iff (s : ByteArray) : s.toList = ([] : List UInt8) ↔ s.size = 0 := by
  rw [toList_bl, ← bl_len]; exact List.length_eq_zero_iff.symm
theorem ev_ite_pos {α : Type} {g f h : Nat → Option α} {c : Prop} [Decidable c] {r : α} (hc : c) (hg : ∀ k, g k = if c then f k else h k) (hf : Ev f r) : Ev g r :=
  Ev.congr (fun k => by rw [hg, if_pos hc]) hf
theorem ev_ite_neg {α : Type} {g f h : Nat → Option α} {c : Prop} [Decidable c] {r : α} (hc : ¬ c) (hg : ∀ k, g k = if c then f k else h k) (hf : Ev h r) : Ev g r :=
  Ev.congr (fun k => by rw [hg, if_neg hc]) hf
/-- What a test of one byte out of a text says. -/
theorem one_byte (s : ByteArray) (i : Nat) (h : i < s.size) (c : UInt8) : (s.extract i (i + 1)).toList = [c] ↔ bt s (i : Int) = (c.toNat : Int) := by
  have hl : i < (bl s).length := h
  rw [toList_bl, bl_extract, bt_nat s i hl]
  have e : ((bl s).drop i).take (i + 1 - i) = [(bl s)[i]] := by
    rw [show i + 1 - i = 1 by omega, List.drop_eq_getElem_cons hl]; rfl
  rw [e]
  constructor
  · intro h; injection h with h1; rw [h1]
  · intro h; congr 1; exact UInt8.toNat_inj.mp (by exact_mod_cast h)

end Go.Proofs.YthcafnmagidpiaaDoor.Hlp
