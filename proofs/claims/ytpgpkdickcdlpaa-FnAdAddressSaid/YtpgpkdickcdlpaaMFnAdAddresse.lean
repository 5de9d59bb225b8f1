/- What the package writes for a value of an address, in plain Lean. -/
import Derived.Test.YtpgpkdickcdlpaaMFnAdAddressx2
import Derived.Test.YtpgpkdickcdlpaaMFnAdAddressx5
import Derived.Test.YtpgpkdickcdlpaaMFnAdAddressx6
import Derived.Test.YtpgpkdickcdlpaaHlp
namespace Go.Proofs.Ytpgpkdickcdlpaa.MFnAdAddresse
open Go Go.RowKit Go.Proofs.Ytpgpkdickcdlpaa.MFnAdAddress Go.Proofs.YtpgpkdickcdlpaaW.PrintWords Go.Proofs.YtpgpkdickcdlpaaW.PrintLast Go.Proofs.YtpgpkdickcdlpaaW.PrintMore Go.Proofs.Ytpgpkdickcdlpaa.Hlp
set_option linter.unusedVariables false
set_option linter.unusedSimpArgs false

theorem at_drop {s : ByteArray} {p : Nat} {c : UInt8} {r : List UInt8} (h : (bl s).drop p = c :: r) : bt s (p : Int) = (c.toNat : Int) := by
  rw [bt_getD]
  have e : (bl s).getD p 0 = ((bl s).drop p).getD 0 0 := by simp [List.getD_eq_getElem?_getD]
  rw [e, h]; rfl
theorem lt_drop {s : ByteArray} {p : Nat} {c : UInt8} {r : List UInt8} (h : (bl s).drop p = c :: r) : p + r.length + 1 = s.size := by
  have := congrArg List.length h
  rw [List.length_drop, bl_len] at this
  simp only [List.length_cons] at this; omega
theorem next_drop {s : ByteArray} {p : Nat} {c : UInt8} {r : List UInt8} (h : (bl s).drop p = c :: r) : (bl s).drop (p + 1) = r := by
  rw [← List.drop_drop, h]; rfl
theorem wj {x : Int} (h1 : -1000000 ≤ x) (h2 : x ≤ 1000000) : wrap64 x = x := w64 (by omega) (by omega)

/-- A byte that is escaped, and its digits. -/
def nd (c : UInt8) : Bool := (dbus_needsEscape.f 5 (c.toNat : Int)).getD false
def hi (c : UInt8) : Int := (dbus_hexchar.f ((c.toNat : Int) / 16)).getD 0
def lo (c : UInt8) : Int := (dbus_hexchar.f (Go.bits .and .u8 (c.toNat : Int) 15)).getD 0
theorem nd_fin : ∀ n : Fin 256, (dbus_needsEscape.f 5 (n.val : Int)).isSome = true := by decide +kernel
theorem nd_ev (c : UInt8) : Ev (fun k => dbus_needsEscape.f k (c.toNat : Int)) (nd c) := by
  refine Ev.of (dbus_needsEscape.mono _) (k := 5) ?_
  obtain ⟨x, hx⟩ := Option.isSome_iff_exists.mp (nd_fin ⟨c.toNat, c.toNat_lt⟩)
  show _ = some ((dbus_needsEscape.f 5 (c.toNat : Int)).getD false)
  rw [show dbus_needsEscape.f 5 (c.toNat : Int) = some x from hx]; rfl
theorem hi_fin : ∀ n : Fin 256, (dbus_hexchar.f ((n.val : Int) / 16)).isSome = true := by decide +kernel
theorem hi_ev (c : UInt8) : dbus_hexchar.f ((c.toNat : Int) / 16) = some (hi c) := by
  obtain ⟨x, hx⟩ := Option.isSome_iff_exists.mp (hi_fin ⟨c.toNat, c.toNat_lt⟩)
  show _ = some ((dbus_hexchar.f ((c.toNat : Int) / 16)).getD 0)
  rw [show dbus_hexchar.f ((c.toNat : Int) / 16) = some x from hx]; rfl
theorem lo_fin : ∀ n : Fin 256, (dbus_hexchar.f (Go.bits .and .u8 (n.val : Int) 15)).isSome = true := by decide +kernel
theorem lo_ev (c : UInt8) : dbus_hexchar.f (Go.bits .and .u8 (c.toNat : Int) 15) = some (lo c) := by
  obtain ⟨x, hx⟩ := Option.isSome_iff_exists.mp (lo_fin ⟨c.toNat, c.toNat_lt⟩)
  show _ = some ((dbus_hexchar.f (Go.bits .and .u8 (c.toNat : Int) 15)).getD 0)
  rw [show dbus_hexchar.f (Go.bits .and .u8 (c.toNat : Int) 15) = some x from hx]; rfl
def enc (c : UInt8) : List Int := if nd c = true then [37, hi c, lo c] else [(c.toNat : Int)]
def esc (l : List UInt8) : List Int := (l.map enc).flatten
theorem esc_nil : esc [] = [] := rfl
theorem esc_cons (c : UInt8) (r : List UInt8) : esc (c :: r) = enc c ++ esc r := by simp [esc]
def cnt : List UInt8 → Nat
  | [] => 0
  | c :: r => (if nd c = true then 1 else 0) + cnt r
theorem cnt_le : ∀ l, cnt l ≤ l.length
  | [] => by simp [cnt]
  | c :: r => by have := cnt_le r; simp only [cnt, List.length_cons]; split <;> omega
theorem esc_len : ∀ l, (esc l).length = l.length + 2 * cnt l
  | [] => rfl
  | c :: r => by
    rw [esc_cons, List.length_append, esc_len r]
    simp only [cnt, List.length_cons, enc]
    split <;> simp <;> omega
theorem esc_none : ∀ l, cnt l = 0 → esc l = l.map fun c => (c.toNat : Int)
  | [], _ => rfl
  | c :: r, h => by
    simp only [cnt] at h
    by_cases hn : nd c = true
    · rw [if_pos hn] at h; omega
    · rw [if_neg hn] at h
      rw [esc_cons, esc_none r (by omega), enc, if_neg hn]; rfl
theorem nums_back (s : ByteArray) : strOfNums ((bl s).map fun c => (c.toNat : Int)) = s := bl_ext (by simp [bl, strOfNums, Function.comp_def])

attribute [irreducible] nd hi lo enc esc cnt
theorem count (s : ByteArray) (hs : s.size ≤ 100000) (d : Nat) : ∀ (i n : Nat), s.size - i = d → i ≤ s.size → n ≤ i → Ev (fun k => dbus_strNeedsEscape.l0 k s (n : Int) (i : Int)) ((n + cnt ((bl s).drop i) : Nat) : Int) := by
  induction d using Nat.strongRecOn with
  | _ d ih =>
  intro i n hd hi hn
  cases hc : (bl s).drop i with
  | nil =>
    have hnl : ¬ i < s.size := by
      have := congrArg List.length hc
      rw [List.length_drop, bl_len] at this
      simp at this; omega
    refine Ev.step (f := fun _ => some (n : Int)) (fun k => ?_) (by rw [cnt, Nat.add_zero]; exact Ev.now _)
    simp only [dbus_strNeedsEscape.l0]; rw [if_neg (by omega)]
  | cons c r =>
    have hlt := lt_drop hc
    have w1 : wrap64 ((i : Int) + 1) = ((i + 1 : Nat) : Int) := wj (by omega) (by omega)
    have w2 : wrap64 ((n : Int) + 1) = ((n + 1 : Nat) : Int) := wj (by omega) (by omega)
    refine Ev.step (f := fun k => (dbus_needsEscape.f k (c.toNat : Int)).bind fun t101 => (if t101 = true then (dbus_strNeedsEscape.l0 k s ((n + 1 : Nat) : Int) ((i + 1 : Nat) : Int)) else (dbus_strNeedsEscape.l0 k s (n : Int) ((i + 1 : Nat) : Int)))) (fun k => ?_) ?_
    · simp only [dbus_strNeedsEscape.l0]
      rw [if_pos (by omega), if_pos (by omega), at_drop hc, w1, w2]
    · refine Ev.bind (nd_ev c) ?_
      by_cases h : nd c = true
      · have h2 := ih (s.size - (i + 1)) (by omega) (i + 1) (n + 1) rfl (by omega) (by omega)
        rw [next_drop hc] at h2
        refine ev_ite_pos h (fun _ => rfl) ?_
        rw [cnt, if_pos h, ← Nat.add_assoc]; exact h2
      · have h2 := ih (s.size - (i + 1)) (by omega) (i + 1) n rfl (by omega) (by omega)
        rw [next_drop hc] at h2
        refine ev_ite_neg h (fun _ => rfl) ?_
        rw [cnt, if_neg h, Nat.zero_add]; exact h2
theorem wm1 (m : Nat) (h : m ≤ 400000) : wrap64 ((m : Int) + 1) = ((m + 1 : Nat) : Int) := w64 (x := (m : Int) + 1) (by omega) (by omega)
theorem wm2 (m : Nat) (h : m ≤ 400000) : wrap64 ((m : Int) + 2) = ((m + 2 : Nat) : Int) := w64 (x := (m : Int) + 2) (by omega) (by omega)
theorem wm3 (m : Nat) (h : m ≤ 400000) : wrap64 ((m : Int) + 3) = ((m + 3 : Nat) : Int) := w64 (x := (m : Int) + 3) (by omega) (by omega)
theorem set_mid (P R : List Int) (x v : Int) : (P ++ x :: R).set P.length v = (P ++ [v]) ++ R := by
  rw [List.set_append_right _ _ (Nat.le_refl _)]; simp
theorem write (s : ByteArray) (hs : s.size ≤ 100000) (d : Nat) : ∀ (i : Nat) (P R : List Int), s.size - i = d → i ≤ s.size → P.length ≤ 3 * i → R.length = (esc ((bl s).drop i)).length →
    Ev (fun k => dbus_EscapeBusAddressValue.l0 k s (P ++ R) (P.length : Int) (i : Int)) (strOfNums (P ++ esc ((bl s).drop i))) := by
  induction d using Nat.strongRecOn with
  | _ d ih =>
  intro i P R hd hi2 hP hR
  cases hc : (bl s).drop i with
  | nil =>
    have hnl : ¬ i < s.size := by
      have := congrArg List.length hc
      rw [List.length_drop, bl_len] at this
      simp at this; omega
    rw [hc] at hR
    obtain rfl : R = [] := List.eq_nil_of_length_eq_zero (by rw [hR, esc_nil]; rfl)
    refine Ev.step (f := fun _ => some (strOfNums (P ++ []))) (fun k => ?_) (by rw [esc_nil]; exact Ev.now _)
    simp only [dbus_EscapeBusAddressValue.l0]; rw [if_neg (by omega)]
  | cons c r =>
    have hlt := lt_drop hc
    rw [hc, esc_cons, List.length_append] at hR
    have hPl : P.length ≤ 400000 := by omega
    have hil : i ≤ 400000 := by omega
    by_cases h : nd c = true
    · rw [enc, if_pos h] at hR
      simp only [List.length_cons, List.length_nil] at hR
      obtain ⟨x, y, z, R', rfl⟩ : ∃ x y z R', R = x :: y :: z :: R' := by
        rcases R with _ | ⟨x, _ | ⟨y, _ | ⟨z, R'⟩⟩⟩
        · exact absurd hR (by simp only [List.length_cons, List.length_nil]; omega)
        · exact absurd hR (by simp only [List.length_cons, List.length_nil]; omega)
        · exact absurd hR (by simp only [List.length_cons, List.length_nil]; omega)
        · exact ⟨x, y, z, R', rfl⟩
      · skip
        simp only [List.length_cons] at hR
        have hlen : (P ++ x :: y :: z :: R').length = P.length + R'.length + 3 := by simp; omega
        have e1 : (((P ++ x :: y :: z :: R').set P.length 37).set (P.length + 1) (hi c)).set (P.length + 2) (lo c) = (P ++ [37, hi c, lo c]) ++ R' := by
          rw [set_mid]
          have : (P ++ [37] ++ y :: z :: R').set (P.length + 1) (hi c) = (P ++ [37] ++ [hi c]) ++ z :: R' := by
            simp
          rw [this]
          simp
        have h2 := ih (s.size - (i + 1)) (by omega) (i + 1) (P ++ [37, hi c, lo c]) R' rfl (by omega) (by simp; omega) (by rw [next_drop hc]; omega)
        rw [next_drop hc] at h2
        have e2 : P ++ esc (c :: r) = (P ++ [37, hi c, lo c]) ++ esc r := by rw [esc_cons, enc, if_pos h]; simp
        rw [e2]
        refine Ev.step (f := fun k => (dbus_needsEscape.f k (c.toNat : Int)).bind fun t109 => (if t109 = true then (dbus_EscapeBusAddressValue.l0 k s ((P ++ [37, hi c, lo c]) ++ R') ((P.length + 3 : Nat) : Int) ((i + 1 : Nat) : Int)) else none)) (fun k => ?_) (Ev.bind (nd_ev c) (ev_ite_pos h (fun _ => rfl) ?_))
        · simp only [dbus_EscapeBusAddressValue.l0]
          rw [if_pos (by omega), if_pos (by omega), at_drop hc]
          have hnd : ∀ q : Option Bool, (∀ b, q = some b → b = true) → ∀ (f g : Bool → Option ByteArray), (∀ b, b = true → f b = g b) → q.bind f = q.bind g := by
            intro q hq f g hfg
            cases q with
            | none => rfl
            | some b => exact hfg b (hq b rfl)
          refine hnd _ (fun b hb => ?_) _ _ (fun b hb => ?_)
          · obtain ⟨K, hK⟩ := nd_ev c
            have m : ∀ n k, dbus_needsEscape.f k (c.toNat : Int) = some b → dbus_needsEscape.f (k + n) (c.toNat : Int) = some b := by
              intro n
              induction n with
              | zero => intro k h; exact h
              | succ n ih => intro k h; exact dbus_needsEscape.mono _ _ _ (ih k h)
            have h3 := m K k hb
            have h4 : dbus_needsEscape.f (k + K) (c.toNat : Int) = some (nd c) := hK (k + K) (by omega)
            rw [h3] at h4
            rw [Option.some.inj h4]; exact h
          · rw [if_pos hb, if_pos hb, if_pos (by omega), if_pos (by omega), hi_ev, Option.bind_some, wm1 _ hPl, if_pos (by omega), if_pos (by omega), lo_ev, Option.bind_some, wm2 _ hPl, if_pos (by omega), if_pos (by omega), wm3 _ hPl, wm1 _ hil]
            simp only [Int.toNat_natCast]
            rw [e1]
        · have e3 : (P ++ [37, hi c, lo c]).length = P.length + 3 := by simp
          rw [e3] at h2; exact h2
    · rw [enc, if_neg h] at hR
      simp only [List.length_cons, List.length_nil] at hR
      obtain ⟨x, R', rfl⟩ : ∃ x R', R = x :: R' := by
        rcases R with _ | ⟨x, R'⟩
        · exact absurd hR (by simp only [List.length_cons, List.length_nil]; omega)
        · exact ⟨x, R', rfl⟩
      · skip
        simp only [List.length_cons] at hR
        have hlen : (P ++ x :: R').length = P.length + R'.length + 1 := by simp; omega
        have h2 := ih (s.size - (i + 1)) (by omega) (i + 1) (P ++ [(c.toNat : Int)]) R' rfl (by omega) (by simp; omega) (by rw [next_drop hc]; omega)
        rw [next_drop hc] at h2
        have e2 : P ++ esc (c :: r) = (P ++ [(c.toNat : Int)]) ++ esc r := by rw [esc_cons, enc, if_neg h]; simp
        rw [e2]
        refine Ev.step (f := fun k => (dbus_needsEscape.f k (c.toNat : Int)).bind fun t109 => (if t109 = true then (if 0 ≤ (P.length : Int) then (if (P.length : Int) < ((P ++ x :: R').length : Int) then ((dbus_hexchar.f ((c.toNat : Int) / 16)).bind fun t111 => (if 0 ≤ (wrap64 ((P.length : Int) + 1)) then (if (wrap64 ((P.length : Int) + 1)) < ((P ++ x :: R').length : Int) then ((dbus_hexchar.f (Go.bits .and .u8 (c.toNat : Int) 15)).bind fun t113 => (if 0 ≤ (wrap64 ((P.length : Int) + 2)) then (if (wrap64 ((P.length : Int) + 2)) < ((P ++ x :: R').length : Int) then (dbus_EscapeBusAddressValue.l0 k s ((((P ++ x :: R').set (P.length : Int).toNat 37).set ((wrap64 ((P.length : Int) + 1)) : Int).toNat t111).set ((wrap64 ((P.length : Int) + 2)) : Int).toNat t113) (wrap64 ((P.length : Int) + 3)) (wrap64 ((i : Int) + 1))) else (none)) else (none))) else (none)) else (none))) else (none)) else (none)) else (dbus_EscapeBusAddressValue.l0 k s ((P ++ [(c.toNat : Int)]) ++ R') ((P.length + 1 : Nat) : Int) ((i + 1 : Nat) : Int)))) (fun k => ?_) (Ev.bind (nd_ev c) (ev_ite_neg h (fun _ => rfl) ?_))
        · simp only [dbus_EscapeBusAddressValue.l0]
          rw [if_pos (by omega), if_pos (by omega), at_drop hc]
          congr 1
          funext b
          by_cases hb : b = true
          · rw [if_pos hb, if_pos hb]
          · rw [if_neg hb, if_neg hb, if_pos (by omega), if_pos (by omega), wm1 _ hPl, wm1 _ hil, Int.toNat_natCast, set_mid]
        · have e3 : (P ++ [(c.toNat : Int)]).length = P.length + 1 := by simp
          rw [e3] at h2; exact h2
theorem escape (s : ByteArray) (hs : s.size ≤ 100000) : Ev (fun k => impl_AdEscape.f k s) (strOfNums (esc (bl s))) := by
  have hcn := count s hs s.size 0 0 (by omega) (by omega) (by omega)
  rw [List.drop_zero, Nat.zero_add] at hcn
  have hle := cnt_le (bl s)
  rw [bl_len] at hle
  have hl := esc_len (bl s)
  rw [bl_len] at hl
  have h : Ev (fun k => dbus_EscapeBusAddressValue.f k s) (strOfNums (esc (bl s))) := by
    refine Ev.bind (g := fun k => dbus_strNeedsEscape.f k s) hcn ?_
    by_cases hz : cnt (bl s) = 0
    · refine ev_ite_pos (by omega) (fun _ => rfl) ?_
      rw [esc_none _ hz, nums_back]; exact Ev.now _
    · refine ev_ite_neg (by omega) (fun _ => rfl) ?_
      have w1 : wrap64 (2 * ((cnt (bl s) : Nat) : Int)) = ((2 * cnt (bl s) : Nat) : Int) := by rw [wj (by omega) (by omega)]; omega
      have w2 : wrap64 ((s.size : Int) + ((2 * cnt (bl s) : Nat) : Int)) = ((s.size + 2 * cnt (bl s) : Nat) : Int) := by rw [wj (by omega) (by omega)]; omega
      simp only [w1, w2, Int.toNat_natCast]
      have main : Ev (fun k => dbus_EscapeBusAddressValue.j0 k s (List.replicate (s.size + 2 * cnt (bl s)) 0)) (strOfNums (esc (bl s))) := by
        have h2 := write s hs s.size 0 [] (List.replicate (s.size + 2 * cnt (bl s)) 0) (by omega) (by omega) (by simp) (by rw [List.drop_zero, hl, List.length_replicate])
        rw [List.drop_zero] at h2
        refine Ev.step (fun k => ?_) h2
        simp only [dbus_EscapeBusAddressValue.j0]; rfl
      by_cases h64 : ((s.size + 2 * cnt (bl s) : Nat) : Int) ≤ 64
      · exact ev_ite_pos h64 (fun _ => rfl) (ev_ite_pos (by omega) (fun _ => rfl) (ev_ite_pos (by omega) (fun _ => rfl) main))
      · exact ev_ite_neg h64 (fun _ => rfl) (ev_ite_pos (by omega) (fun _ => rfl) (ev_ite_pos (by omega) (fun _ => rfl) main))
  exact Ev.bind h (Ev.now _)
end Go.Proofs.Ytpgpkdickcdlpaa.MFnAdAddresse
