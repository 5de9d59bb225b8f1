/- What the package reads of a value of an address, in plain Lean. -/
import Derived.Test.YtpgpkdickcdlpaaMFnAdAddressx2
import Derived.Test.YtpgpkdickcdlpaaMFnAdAddressx5
import Derived.Test.YtpgpkdickcdlpaaMFnAdAddressx6
import Derived.Test.YtpgpkdickcdlpaaHlp
namespace Go.Proofs.Ytpgpkdickcdlpaa.MFnAdAddressu
open Go Go.RowKit Go.Proofs.Ytpgpkdickcdlpaa.MFnAdAddress Go.Proofs.YtpgpkdickcdlpaaW.PrintWords Go.Proofs.YtpgpkdickcdlpaaW.PrintLast Go.Proofs.YtpgpkdickcdlpaaW.PrintMore Go.Proofs.Ytpgpkdickcdlpaa.Hlp
set_option linter.unusedVariables false

theorem num_eq {c : UInt8} (d : UInt8) : (c.toNat : Int) = (d.toNat : Int) ↔ c = d := by
  constructor
  · intro h; exact UInt8.toNat_inj.mp (by exact_mod_cast h)
  · intro h; rw [h]
theorem at_drop {s : ByteArray} {p : Nat} {c : UInt8} {r : List UInt8} (h : (bl s).drop p = c :: r) : bt s (p : Int) = (c.toNat : Int) := by
  rw [bt_getD]
  have e : (bl s).getD p 0 = ((bl s).drop p).getD 0 0 := by simp [List.getD_eq_getElem?_getD]
  rw [e, h]; rfl
theorem lt_drop {s : ByteArray} {p : Nat} {c : UInt8} {r : List UInt8} (h : (bl s).drop p = c :: r) : p + r.length + 1 = s.size := by
  have := congrArg List.length h
  rw [List.length_drop, bl_len] at this
  simp only [List.length_cons] at this; omega
theorem next_drop {s : ByteArray} {p : Nat} {c : UInt8} {r : List UInt8} (h : (bl s).drop p = c :: r) : (bl s).drop (p + 1) = r := by
  rw [← List.drop_drop, h]; rfl
theorem wj {x : Int} (h1 : -1000000 ≤ x) (h2 : x ≤ 1000000) : wrap64 x = x := w64 (by omega) (by omega)

/-- A hexadecimal digit. -/
def hex (c : UInt8) : Int × Bool := (dbus_zzHexDigit.f 5 (c.toNat : Int)).getD (0, false)
theorem hex_fin : ∀ n : Fin 256, (dbus_zzHexDigit.f 5 (n.val : Int)).isSome = true := by decide +kernel
theorem hex_ev (c : UInt8) : Ev (fun k => dbus_zzHexDigit.f k (c.toNat : Int)) (hex c) := by
  refine Ev.of (dbus_zzHexDigit.mono _) (k := 5) ?_
  have h := hex_fin ⟨c.toNat, c.toNat_lt⟩
  obtain ⟨x, hx⟩ := Option.isSome_iff_exists.mp h
  show _ = some ((dbus_zzHexDigit.f 5 (c.toNat : Int)).getD (0, false))
  rw [show dbus_zzHexDigit.f 5 (c.toNat : Int) = some x from hx]; rfl
/-- The byte of two digits. -/
def two (a b : UInt8) : Int := Go.bits .or .u8 (((hex a).1 * 16) % 256) (hex b).1
/-- A text without its escapes. -/
def un : List UInt8 → Option (List Int)
  | [] => some []
  | [c] => if c = 37 then none else some [(c.toNat : Int)]
  | [c, d] => if c = 37 then none else (un [d]).map fun l => (c.toNat : Int) :: l
  | c :: a :: b :: q => if c = 37 then (if (hex a).2 = true then (if (hex b).2 = true then (un q).map fun l => two a b :: l else none) else none) else (un (a :: b :: q)).map fun l => (c.toNat : Int) :: l
theorem un_plain {c : UInt8} (h : c ≠ 37) (r : List UInt8) : un (c :: r) = (un r).map fun l => (c.toNat : Int) :: l := by
  match r with
  | [] => simp [un, h]
  | [d] => simp [un, h]
  | a :: b :: q => rw [un, if_neg h]
theorem un_esc (a b : UInt8) (q : List UInt8) : un (37 :: a :: b :: q) = if (hex a).2 = true then (if (hex b).2 = true then (un q).map fun l => two a b :: l else none) else none := by
  rw [un, if_pos rfl]
/-- What the reader gives back. -/
def back (acc : List Int) : Option (List Int) → ByteArray × Option (TypeId × Value)
  | some l => (strOfNums (acc ++ l), none)
  | none => (⟨#[]⟩, some (49, .nilIface))
theorem err_now : ∀ m, errors_New.f m = some (some (49, .nilIface)) := fun _ => rfl
theorem read (s : ByteArray) (hs : s.size ≤ 100000) (d : Nat) : ∀ (i : Nat) (acc : List Int), s.size - i = d → i ≤ s.size → acc.length ≤ i → Ev (fun k => dbus_zzPathUnescape.l0 k s acc (i : Int)) (back acc (un ((bl s).drop i))) := by
  induction d using Nat.strongRecOn with
  | _ d ih =>
  intro i acc hd hi ha
  cases hc : (bl s).drop i with
  | nil =>
    have hnl : ¬ i < s.size := by
      have := congrArg List.length hc
      rw [List.length_drop, bl_len] at this
      simp at this; omega
    refine Ev.step (f := fun _ => some (strOfNums acc, none)) (fun k => ?_) (by simp [un, back]; exact Ev.now _)
    simp only [dbus_zzPathUnescape.l0]; rw [if_neg (by omega)]
  | cons c r =>
    have hlt := lt_drop hc
    have w1 : wrap64 ((i : Int) + 1) = ((i + 1 : Nat) : Int) := wj (by omega) (by omega)
    have w2 : wrap64 ((i : Int) + 2) = ((i + 2 : Nat) : Int) := wj (by omega) (by omega)
    have w3 : wrap64 (((i + 2 : Nat) : Int) + 1) = ((i + 3 : Nat) : Int) := wj (by omega) (by omega)
    by_cases h37 : c = 37
    · subst h37
      have st : ∀ k, dbus_zzPathUnescape.l0 (k + 1) s acc (i : Int) = (if ((i + 2 : Nat) : Int) ≥ (s.size : Int) then ((errors_New.f (⟨#[105, 110, 118, 97, 108, 105, 100, 32, 101, 115, 99, 97, 112, 101]⟩ : ByteArray)).bind fun t104 => (some ((⟨#[]⟩ : ByteArray), t104))) else (if 0 ≤ ((i + 1 : Nat) : Int) then (if ((i + 1 : Nat) : Int) < (s.size : Int) then ((dbus_zzHexDigit.f k (bt s ((i + 1 : Nat) : Int))).bind fun bt105 => (if 0 ≤ ((i + 2 : Nat) : Int) then (if ((i + 2 : Nat) : Int) < (s.size : Int) then ((dbus_zzHexDigit.f k (bt s ((i + 2 : Nat) : Int))).bind fun bt107 => (if bt105.2 = true then (if bt107.2 = true then (if acc.length < 140737488355328 then (dbus_zzPathUnescape.l0 k s (acc ++ [Go.bits .or .u8 ((bt105.1 * 16) % 256) bt107.1]) ((i + 3 : Nat) : Int)) else (none)) else ((errors_New.f (⟨#[105, 110, 118, 97, 108, 105, 100, 32, 101, 115, 99, 97, 112, 101]⟩ : ByteArray)).bind fun t112 => (some ((⟨#[]⟩ : ByteArray), t112)))) else ((errors_New.f (⟨#[105, 110, 118, 97, 108, 105, 100, 32, 101, 115, 99, 97, 112, 101]⟩ : ByteArray)).bind fun t113 => (some ((⟨#[]⟩ : ByteArray), t113))))) else (none)) else (none))) else (none)) else (none))) := by
        intro k
        simp only [dbus_zzPathUnescape.l0]
        rw [if_pos (by omega), if_pos (by omega), at_drop hc, if_pos (by rfl), w1, w2, w3]
      refine Ev.step st ?_
      match r, hc, hlt with
      | [], hc, hlt => exact ev_ite_pos (by simp at hlt; omega) (fun _ => rfl) (Ev.now _)
      | [a], hc, hlt => exact ev_ite_pos (by simp at hlt; omega) (fun _ => rfl) (Ev.now _)
      | a :: b :: q, hc, hlt =>
        simp only [List.length_cons] at hlt
        have ha1 := next_drop hc
        have hb1 := next_drop ha1
        have hq1 := next_drop hb1
        refine ev_ite_neg (by omega) (fun _ => rfl) (ev_ite_pos (by omega) (fun _ => rfl) (ev_ite_pos (by omega) (fun _ => rfl) ?_))
        rw [at_drop ha1, at_drop hb1, un_esc]
        refine Ev.bind (hex_ev a) (ev_ite_pos (by omega) (fun _ => rfl) (ev_ite_pos (by omega) (fun _ => rfl) (Ev.bind (hex_ev b) ?_)))
        by_cases hxa : (hex a).2 = true
        · rw [if_pos hxa]
          refine ev_ite_pos hxa (fun _ => rfl) ?_
          by_cases hxb : (hex b).2 = true
          · rw [if_pos hxb]
            refine ev_ite_pos hxb (fun _ => rfl) (ev_ite_pos (by omega) (fun _ => rfl) ?_)
            have := ih (s.size - (i + 3)) (by omega) (i + 3) (acc ++ [two a b]) rfl (by omega) (by simp; omega)
            rw [hq1] at this
            have e : back (acc ++ [two a b]) (un q) = back acc ((un q).map fun l => two a b :: l) := by cases un q <;> simp [back]
            rw [e] at this; exact this
          · rw [if_neg hxb]; exact ev_ite_neg hxb (fun _ => rfl) (Ev.now _)
        · rw [if_neg hxa]; exact ev_ite_neg hxa (fun _ => rfl) (Ev.now _)
    · have st : ∀ k, dbus_zzPathUnescape.l0 (k + 1) s acc (i : Int) = dbus_zzPathUnescape.l0 k s (acc ++ [(c.toNat : Int)]) ((i + 1 : Nat) : Int) := by
        intro k
        simp only [dbus_zzPathUnescape.l0]
        rw [if_pos (by omega), if_pos (by omega), at_drop hc, if_neg (show ¬ (c.toNat : Int) = 37 from fun q => h37 ((num_eq 37).mp q)), if_pos (by omega), w1]
      have := ih (s.size - (i + 1)) (by omega) (i + 1) (acc ++ [(c.toNat : Int)]) rfl (by omega) (by simp; omega)
      rw [next_drop hc] at this
      have e : back (acc ++ [(c.toNat : Int)]) (un r) = back acc (un (c :: r)) := by rw [un_plain h37]; cases un r <;> simp [back]
      rw [e] at this
      exact Ev.step st this
/-- Unescaped, or an error. -/
def told : Option (List Int) → ByteArray × Bool
  | some l => (strOfNums l, true)
  | none => (⟨#[]⟩, false)
theorem unescape (s : ByteArray) (hs : s.size ≤ 100000) : Ev (fun k => impl_AdUnescape.f k s) (told (un (bl s))) := by
  have h := read s hs s.size 0 [] (by omega) (by omega) (by simp)
  rw [List.drop_zero] at h
  unfold impl_AdUnescape.f dbus_UnescapeBusAddressValue.f
  cases hu : un (bl s) with
  | some l =>
    rw [hu] at h
    exact Ev.bind (Ev.bind (g := fun k => dbus_zzPathUnescape.f k s) h (Ev.now _)) (ev_ite_pos rfl (fun _ => rfl) (Ev.now _))
  | none =>
    rw [hu] at h
    exact Ev.bind (Ev.bind (g := fun k => dbus_zzPathUnescape.f k s) h (Ev.now _)) (ev_ite_neg (show ¬ (false = true) by decide) (fun _ => rfl) (Ev.now _))
end Go.Proofs.Ytpgpkdickcdlpaa.MFnAdAddressu
