/- A byte string's text is read as the bytes that it stands for. -/
import Derived.Test.YtngbhojjjkdofaaDoorVtIn
namespace Go.Proofs.YtngbhojjjkdofaaDoor.Pure
open Go Go.RowKit Go.Proofs.YtngbhojjjkdofaaDoor.MFnVtBytes Go.Proofs.YtngbhojjjkdofaaDoorW.PrintWords Go.Proofs.YtngbhojjjkdofaaDoorW.PrintLast Go.Proofs.YtngbhojjjkdofaaDoor.Hlp
set_option linter.unusedVariables false
set_option linter.unusedSectionVars false

/-! ### BytesOf -/
theorem ev_at {α : Type} {g : Nat → Option α} {r : α} (h : ∃ K, ∀ k, K ≤ k → g (k + 1) = some r) : Ev g r := by
  obtain ⟨K, h⟩ := h
  exact ⟨K + 1, fun n hn => by obtain ⟨m, rfl⟩ : ∃ m, n = m + 1 := ⟨n - 1, by omega⟩; exact h m (by omega)⟩
def resO (o : Option (List Int)) : ByteArray × Bool := match o with
  | some xs => (strOfNums (xs ++ [0]), true)
  | none => (⟨#[]⟩, false)
def hv (B : Nat) : List UInt8 → Nat → Option Nat
  | [], n => some n
  | c :: r, n => match dig c with
    | some d => if d < B then hv B r (n * B + d) else none
    | none => none
theorem hv_ge {B : Nat} (hB : 1 ≤ B) : ∀ {l : List UInt8} {n v : Nat}, hv B l n = some v → n ≤ v
  | [], n, v, h => by simp only [hv, Option.some.injEq] at h; omega
  | c :: r, n, v, h => by
    unfold hv at h
    split at h
    · split at h
      · have := hv_ge hB h
        have h2 : n * 1 ≤ n * B := Nat.mul_le_mul_left n hB
        omega
      · cases h
    · cases h
theorem num_hv {B : Nat} (hB : 1 ≤ B) : ∀ (l : List UInt8) (n : Nat), n ≤ 255 → numOf B l n = (hv B l n).bind fun v => if v ≤ 255 then some v else none
  | [], n, hn => by simp [numOf, hv, hn]
  | c :: r, n, hn => by
    unfold numOf hv
    cases hd : dig c with
    | none => rfl
    | some d =>
      show (if B ≤ d then none else if 255 < n * B + d then none else numOf B r (n * B + d)) = _
      by_cases h1 : B ≤ d
      · rw [if_pos h1]
        show none = ((if d < B then hv B r (n * B + d) else none).bind _)
        rw [if_neg (by omega)]
        rfl
      · rw [if_neg h1]
        have hp : (if d < B then hv B r (n * B + d) else none) = hv B r (n * B + d) := if_pos (by omega)
        show _ = ((if d < B then hv B r (n * B + d) else none).bind _)
        rw [hp]
        by_cases h2 : 255 < n * B + d
        · rw [if_pos h2]
          cases hv2 : hv B r (n * B + d) with
          | none => rfl
          | some v =>
            have := hv_ge hB hv2
            show none = (if v ≤ 255 then some v else none)
            rw [if_neg (by omega)]
        · rw [if_neg h2]
          exact num_hv hB r _ (by omega)
theorem nd_hv {B : Nat} (hB : B ≤ 16) (r : List UInt8) : ∀ {l : List UInt8} {n v : Nat}, hv B l n = some v → nd (l ++ r) → nd r
  | [], n, v, _, h => h
  | c :: l, n, v, h, hn => by
    unfold hv at h
    split at h
    · rename_i d hd
      split at h
      · rename_i hlt
        rw [List.cons_append, nd_plain (dig_mark hd (by omega))] at hn
        exact nd_hv hB r h hn
      · cases h
    · cases h
section
variable {a : ByteArray} {E : Nat} (hE : E + 1 = a.size) (hsz : a.size ≤ 100000)
include hE hsz
theorem bo_end (acc : List Int) (k : Nat) (hk : ¬ k < E) (hl : acc.length ≤ 100000) : Ev (fun K => spec_BytesOf.l0 K a acc (E : Int) (k : Int)) (resO (some acc)) :=
  Ev.step (f := fun _ => some (resO (some acc))) (fun K => by simp only [spec_BytesOf.l0]; rw [if_neg (by omega), if_pos (by omega)]; rfl) (Ev.now _)
theorem bo_plain {acc : List Int} {k : Nat} {c : UInt8} {r : List UInt8} {res : ByteArray × Bool} (h : (bl a).drop k = c :: r) (hk : k < E) (hc : c ≠ 92) (hl : acc.length ≤ 100000)
    (hr : Ev (fun K => spec_BytesOf.l0 K a (acc ++ [(c.toNat : Int)]) (E : Int) ((k + 1 : Nat) : Int)) res) : Ev (fun K => spec_BytesOf.l0 K a acc (E : Int) (k : Int)) res := by
  obtain ⟨h1, h2, h3⟩ := at_drop h
  refine Ev.step (fun K => ?_) hr
  simp only [spec_BytesOf.l0]
  rw [if_pos (by omega), if_pos (by omega), if_pos (by omega), if_neg (by rw [h2]; intro e; exact hc (UInt8.toNat_inj.1 (by show c.toNat = 92; omega))), if_pos (by omega), up1 k (by omega), h2]
theorem bo_esc {acc : List Int} {k : Nat} {e : UInt8} {r : List UInt8} {res : ByteArray × Bool} (h : (bl a).drop k = 92 :: e :: r) (hk : k + 1 < E) (h120 : e ≠ 120) (h48 : e ≠ 48) (hl : acc.length ≤ 100000)
    (hr : Ev (fun K => spec_BytesOf.l0 K a (acc ++ [escOf e]) (E : Int) ((k + 2 : Nat) : Int)) res) : Ev (fun K => spec_BytesOf.l0 K a acc (E : Int) (k : Int)) res := by
  obtain ⟨h1, h2, h3⟩ := at_drop h
  obtain ⟨g1, g2, g3⟩ := at_drop h3
  obtain ⟨K1, a1⟩ := esc_ev e
  obtain ⟨K2, a2⟩ := hr
  refine ev_at ⟨K1 + K2 + 1, fun K hK => ?_⟩
  obtain ⟨n, rfl⟩ : ∃ n, K = n + 1 := ⟨K - 1, by omega⟩
  have b1 : spec_escapedAs.f n (e.toNat : Int) = some (escOf e) := a1 n (by omega)
  have b2 : spec_BytesOf.l0 n a (acc ++ [escOf e]) (E : Int) ((k + 2 : Nat) : Int) = some res := a2 n (by omega)
  have E1 : Aside0 (wrap64 ((k : Int) + 1) = ((k + 1 : Nat) : Int)) := ⟨up1 k (by omega)⟩
  have E2 : Aside0 (wrap64 (((k + 1 : Nat) : Int) + 1) = ((k + 2 : Nat) : Int)) := ⟨up1 (k + 1) (by omega)⟩
  have n1 : ¬ (e.toNat : Int) = 120 := fun q => h120 (UInt8.toNat_inj.1 (by show e.toNat = 120; omega))
  have n2 : ((e.toNat : Int) == 48) = false := beq_eq_false_iff_ne.2 (fun q => h48 (UInt8.toNat_inj.1 (by show e.toNat = 48; omega)))
  simp only [spec_BytesOf.l0]
  rw [if_pos (by omega), if_pos (by omega), if_pos (by omega), if_pos (by rw [h2]; rfl), E1.out, if_pos (by omega), if_pos (by omega), g2, if_neg n1, n2]
  simp only [spec_BytesOf.j1]
  rw [if_neg (by simp), b1, Option.bind_some, if_pos (by omega), E2.out, b2]
theorem bo_hex {acc : List Int} {k many B : Nat} {e : UInt8} {r : List UInt8} {res : ByteArray × Bool} (h : (bl a).drop k = 92 :: e :: r) (hk : k + 1 < E) (he : (e = 120 ∧ many = 2 ∧ B = 16) ∨ (e = 48 ∧ many = 3 ∧ B = 8)) (hl : acc.length ≤ 100000)
    (hr : Ev (fun K => spec_BytesOf.l1 K a acc (E : Int) ((k + 1 : Nat) : Int) 0 (many : Int) (B : Int) 0) res) : Ev (fun K => spec_BytesOf.l0 K a acc (E : Int) (k : Int)) res := by
  obtain ⟨h1, h2, h3⟩ := at_drop h
  obtain ⟨g1, g2, g3⟩ := at_drop h3
  obtain ⟨K2, a2⟩ := hr
  refine ev_at ⟨K2 + 2, fun K hK => ?_⟩
  obtain ⟨n, rfl⟩ : ∃ n, K = n + 1 + 1 := ⟨K - 2, by omega⟩
  have b2 : spec_BytesOf.l1 n a acc (E : Int) ((k + 1 : Nat) : Int) 0 (many : Int) (B : Int) 0 = some res := a2 n (by omega)
  have E1 : Aside0 (wrap64 ((k : Int) + 1) = ((k + 1 : Nat) : Int)) := ⟨up1 k (by omega)⟩
  simp only [spec_BytesOf.l0]
  rw [if_pos (by omega), if_pos (by omega), if_pos (by omega), if_pos (by rw [h2]; rfl), E1.out, if_pos (by omega), if_pos (by omega), g2]
  rcases he with ⟨rfl, rfl, rfl⟩ | ⟨rfl, rfl, rfl⟩
  · rw [if_pos (by rfl), show (((120 : UInt8).toNat : Int) == 120) = true from rfl]
    simp only [spec_BytesOf.j1]
    rw [if_pos trivial, if_neg (by decide)]
    simp only [spec_BytesOf.j2]
    exact b2
  · rw [if_neg (by decide), show (((48 : UInt8).toNat : Int) == 48) = true from rfl]
    simp only [spec_BytesOf.j1]
    rw [if_pos trivial, if_pos (by rfl)]
    simp only [spec_BytesOf.j2]
    exact b2
theorem l1_short {acc : List Int} {p n many B j : Nat} (hp : ¬ p + 1 < E) (hj : j < many) (hp2 : p ≤ 200000) : Ev (fun K => spec_BytesOf.l1 K a acc (E : Int) (p : Int) (n : Int) (many : Int) (B : Int) (j : Int)) (resO none) :=
  Ev.step (f := fun _ => some (resO none)) (fun K => by simp only [spec_BytesOf.l1]; rw [if_pos (by omega), up1 p (by omega), if_neg (by omega)]; rfl) (Ev.now _)
theorem l1_bad {acc : List Int} {p n many B j : Nat} {c : UInt8} {r : List UInt8} (h : (bl a).drop (p + 1) = c :: r) (hp : p + 1 < E) (hj : j < many) (hB : B ≤ 16) (hb : ∀ d, dig c = some d → B ≤ d) : Ev (fun K => spec_BytesOf.l1 K a acc (E : Int) (p : Int) (n : Int) (many : Int) (B : Int) (j : Int)) (resO none) := by
  obtain ⟨h1, h2, h3⟩ := at_drop h
  obtain ⟨K1, a1⟩ := hex_ev c
  refine ev_at ⟨K1, fun K hK => ?_⟩
  have b1 : spec_hexDigit.f K (c.toNat : Int) = some (hexR c) := a1 K hK
  simp only [spec_BytesOf.l1]
  rw [if_pos (by omega), up1 p (by omega), if_pos (by omega), if_pos (by omega), if_pos (by omega), h2, b1, Option.bind_some]
  unfold hexR
  cases hd : dig c with
  | none => rfl
  | some d =>
    have hbd := hb d hd
    by_cases h16 : d < 16
    · simp only [if_pos h16]
      rw [if_pos trivial, if_pos (by rw [w64 (by omega) (by omega)]; omega)]
      rfl
    · simp only [if_neg h16]
      rfl
theorem l1_next {acc : List Int} {p n many B j d : Nat} {c : UInt8} {r : List UInt8} {res : ByteArray × Bool} (h : (bl a).drop (p + 1) = c :: r) (hp : p + 1 < E) (hj : j < many) (hB : B ≤ 16) (hd : dig c = some d) (hlt : d < B) (hn : n ≤ 100000) (hm : many ≤ 10)
    (hr : Ev (fun K => spec_BytesOf.l1 K a acc (E : Int) ((p + 1 : Nat) : Int) ((n * B + d : Nat) : Int) (many : Int) (B : Int) ((j + 1 : Nat) : Int)) res) : Ev (fun K => spec_BytesOf.l1 K a acc (E : Int) (p : Int) (n : Int) (many : Int) (B : Int) (j : Int)) res := by
  obtain ⟨h1, h2, h3⟩ := at_drop h
  obtain ⟨K1, a1⟩ := hex_ev c
  obtain ⟨K2, a2⟩ := hr
  refine ev_at ⟨K1 + K2, fun K hK => ?_⟩
  have b1 : spec_hexDigit.f K (c.toNat : Int) = some (hexR c) := a1 K (by omega)
  have b2 : spec_BytesOf.l1 K a acc (E : Int) ((p + 1 : Nat) : Int) ((n * B + d : Nat) : Int) (many : Int) (B : Int) ((j + 1 : Nat) : Int) = some res := a2 K (by omega)
  have hnb : n * B ≤ 100000 * 16 := Nat.mul_le_mul hn hB
  have hx : hexR c = ((d : Int), true) := by
    unfold hexR
    rw [hd]
    simp only [if_pos (show d < 16 by omega)]
  obtain ⟨M, hM⟩ : ∃ M, M = n * B := ⟨_, rfl⟩
  rw [← hM] at hnb
  have E3 : Aside0 (wrap64 ((n : Int) * (B : Int)) = (M : Int)) := ⟨by
    rw [← Int.natCast_mul, ← hM]
    exact w64 (by omega) (by omega)⟩
  have E4 : Aside0 (wrap64 ((M : Int) + (d : Int)) = ((n * B + d : Nat) : Int)) := ⟨by rw [← hM, w64 (by omega) (by omega)]; omega⟩
  clear hM
  simp only [spec_BytesOf.l1]
  rw [if_pos (by omega), up1 p (by omega), if_pos (by omega), if_pos (by omega), if_pos (by omega), h2, b1, Option.bind_some, hx, if_pos rfl, w64 (x := (d : Int)) (by omega) (by omega), if_neg (by omega), E3.out, E4.out, up1 j (by omega), b2]
theorem l1_end {acc : List Int} {p v many B : Nat} {res : ByteArray × Bool} (hv : v ≤ 255) (hp : p ≤ 200000) (hl : acc.length ≤ 100000)
    (hr : Ev (fun K => spec_BytesOf.l0 K a (acc ++ [(v : Int)]) (E : Int) ((p + 1 : Nat) : Int)) res) : Ev (fun K => spec_BytesOf.l1 K a acc (E : Int) (p : Int) (v : Int) (many : Int) (B : Int) (many : Int)) res := by
  refine Ev.step (fun K => ?_) hr
  simp only [spec_BytesOf.l1]
  rw [if_neg (by omega), if_neg (by omega), if_pos (by omega), up1 p (by omega), show (v : Int) % 256 = (v : Int) by omega]
theorem l1_big {acc : List Int} {p v many B : Nat} (hv : 255 < v) : Ev (fun K => spec_BytesOf.l1 K a acc (E : Int) (p : Int) (v : Int) (many : Int) (B : Int) (many : Int)) (resO none) :=
  Ev.step (f := fun _ => some (resO none)) (fun K => by simp only [spec_BytesOf.l1]; rw [if_neg (by omega), if_pos (by omega)]; rfl) (Ev.now _)
theorem bo_run {acc : List Int} {many B : Nat} (hB : B ≤ 16) (hm : many ≤ 3) : ∀ (ds : List UInt8) (n j p : Nat) (rr : List UInt8), (bl a).drop (p + 1) = ds ++ rr → p + 1 + ds.length ≤ E → j + ds.length ≤ many → n + 1 ≤ 16 ^ j →
    (hv B ds n = none → Ev (fun K => spec_BytesOf.l1 K a acc (E : Int) (p : Int) (n : Int) (many : Int) (B : Int) (j : Int)) (resO none)) ∧
    (∀ v res, hv B ds n = some v → Ev (fun K => spec_BytesOf.l1 K a acc (E : Int) ((p + ds.length : Nat) : Int) (v : Int) (many : Int) (B : Int) ((j + ds.length : Nat) : Int)) res → Ev (fun K => spec_BytesOf.l1 K a acc (E : Int) (p : Int) (n : Int) (many : Int) (B : Int) (j : Int)) res)
  | [], n, j, p, rr, h, hp, hj, hn => ⟨fun h => by simp [hv] at h, fun v res h hr => by
      simp only [hv, Option.some.injEq] at h
      subst h
      exact hr⟩
  | c :: ds, n, j, p, rr, h, hp, hj, hn => by
    simp only [List.length_cons] at hp hj
    have hjp : 16 ^ j ≤ 16 ^ 3 := Nat.pow_le_pow_right (by omega) (by omega)
    have hn2 : n ≤ 100000 := by omega
    obtain ⟨h1, h2, h3⟩ := at_drop (r := ds ++ rr) h
    cases hd : dig c with
    | none => exact ⟨fun _ => l1_bad hE hsz (r := ds ++ rr) h (by omega) (by omega) hB (fun d h => by rw [hd] at h; cases h), fun v res h => by simp [hv, hd] at h⟩
    | some d =>
      by_cases hlt : d < B
      · have hv1 : hv B (c :: ds) n = hv B ds (n * B + d) := by
          show (match dig c with | some d => if d < B then hv B ds (n * B + d) else none | none => none) = _
          rw [hd]
          exact if_pos hlt
        have hb : n * B + d + 1 ≤ 16 ^ (j + 1) := by
          have q1 : n * B ≤ n * 16 := Nat.mul_le_mul_left n hB
          rw [Nat.pow_succ]
          omega
        obtain ⟨i1, i2⟩ := bo_run hB hm ds (n * B + d) (j + 1) (p + 1) rr h3 (by omega) (by omega) hb
        refine ⟨fun h0 => ?_, fun v res h0 hr => ?_⟩
        · rw [hv1] at h0
          exact l1_next hE hsz (r := ds ++ rr) h (by omega) (by omega) hB hd hlt hn2 (by omega) (i1 h0)
        · rw [hv1] at h0
          refine l1_next hE hsz (r := ds ++ rr) h (by omega) (by omega) hB hd hlt hn2 (by omega) (i2 v res h0 ?_)
          rw [show p + 1 + ds.length = p + (c :: ds).length by simp; omega, show j + 1 + ds.length = j + (c :: ds).length by simp; omega]
          exact hr
      · have hv1 : hv B (c :: ds) n = none := by
          show (match dig c with | some d => if d < B then hv B ds (n * B + d) else none | none => none) = _
          rw [hd]
          exact if_neg hlt
        exact ⟨fun _ => l1_bad hE hsz (r := ds ++ rr) h (by omega) (by omega) hB (fun d' h => by rw [hd] at h; cases h; omega), fun v res h => by rw [hv1] at h; cases h⟩
/-- Too few digits. -/
theorem bo_few {acc : List Int} {many B p : Nat} (hB : B ≤ 16) (hm : many ≤ 3) (ds rr : List UInt8) (h : (bl a).drop (p + 1) = ds ++ rr) (hp : p + 1 + ds.length = E) (hl : ds.length < many) :
    Ev (fun K => spec_BytesOf.l1 K a acc (E : Int) (p : Int) 0 (many : Int) (B : Int) 0) (resO none) := by
  obtain ⟨i1, i2⟩ := bo_run (acc := acc) hE hsz hB hm ds 0 0 p rr h (by omega) (by omega) (by simp)
  cases h0 : hv B ds 0 with
  | none => exact i1 h0
  | some v => exact i2 v _ h0 (l1_short hE hsz (by omega) (by omega) (by omega))
theorem bo_all {acc : List Int} {many B p : Nat} (hB : B ≤ 16) (hB1 : 1 ≤ B) (hm : many ≤ 3) (ds rr : List UInt8) (h : (bl a).drop (p + 1) = ds ++ rr) (hp : p + 1 + ds.length ≤ E) (hl : ds.length = many) (hacc : acc.length ≤ 100000) :
    (numOf B ds 0 = none → Ev (fun K => spec_BytesOf.l1 K a acc (E : Int) (p : Int) 0 (many : Int) (B : Int) 0) (resO none)) ∧
    (∀ v res, numOf B ds 0 = some v → Ev (fun K => spec_BytesOf.l0 K a (acc ++ [(v : Int)]) (E : Int) ((p + many + 1 : Nat) : Int)) res → Ev (fun K => spec_BytesOf.l1 K a acc (E : Int) (p : Int) 0 (many : Int) (B : Int) 0) res) := by
  obtain ⟨i1, i2⟩ := bo_run (acc := acc) hE hsz hB hm ds 0 0 p rr h (by omega) (by omega) (by simp)
  rw [num_hv hB1 ds 0 (by omega)]
  cases h0 : hv B ds 0 with
  | none => exact ⟨fun _ => i1 h0, fun v res h => by cases h⟩
  | some u =>
    show ((if u ≤ 255 then some u else none) = none → _) ∧ ∀ v res, (if u ≤ 255 then some u else none) = some v → _
    have e0 : 0 + ds.length = many := by omega
    by_cases hu : u ≤ 255
    · rw [if_pos hu]
      refine ⟨(fun h => by cases h), fun v res hv' hr => ?_⟩
      cases hv'
      refine i2 u _ h0 ?_
      rw [e0, hl]
      exact l1_end hE hsz hu (by omega) hacc hr
    · rw [if_neg hu]
      refine ⟨fun _ => i2 u _ h0 ?_, (fun v res hv' => by cases hv')⟩
      rw [e0, hl]
      exact l1_big hE hsz (by omega)
theorem bo_main (mk : UInt8) : ∀ (N : Nat) (rest : List UInt8) (acc : List Int) (k : Nat), rest.length ≤ N → (bl a).drop k = rest ++ [mk] → nd rest → acc.length ≤ k →
    ∃ o, pgo acc rest = some o ∧ Ev (fun K => spec_BytesOf.l0 K a acc (E : Int) (k : Int)) (resO o)
  | 0, [], acc, k, hN, h, hnd, hacc => by
    have hk : k + 1 = a.size := by
      have := congrArg List.length h
      rw [List.length_drop, bl_len] at this
      simp at this
      omega
    exact ⟨_, pgo_nil acc, bo_end hE hsz acc k (by omega) (by omega)⟩
  | 0, _ :: _, acc, k, hN, h, hnd, hacc => by simp at hN
  | N + 1, [], acc, k, hN, h, hnd, hacc => bo_main mk N [] acc k (Nat.zero_le _) h hnd hacc
  | N + 1, c :: rest, acc, k, hN, h, hnd, hacc => by
    simp only [List.length_cons] at hN
    have hk : k + rest.length + 2 = a.size := by
      have := congrArg List.length h
      rw [List.length_drop, bl_len] at this
      simp at this
      omega
    obtain ⟨h1, h2, h3⟩ := at_drop (r := rest ++ [mk]) h
    by_cases hc : c = 92
    · subst hc
      cases rest with
      | nil => rw [nd_end] at hnd; exact hnd.elim
      | cons e t =>
        rw [nd_esc] at hnd
        simp only [List.length_cons] at hN hk
        obtain ⟨g1, g2, g3⟩ := at_drop (r := t ++ [mk]) h3
        have hh : (bl a).drop k = 92 :: e :: (t ++ [mk]) := h
        by_cases h120 : e = 120
        · subst h120
          by_cases hs : t.length < 2
          · exact ⟨none, pgo_x_short acc t hs, bo_hex hE hsz (many := 2) (B := 16) hh (by omega) (.inl ⟨rfl, rfl, rfl⟩) (by omega) (bo_few hE hsz (by omega) (by omega) t [mk] g3 (by omega) hs)⟩
          · obtain ⟨x, y, r, rfl⟩ : ∃ x y r, t = x :: y :: r := by
              match t, hs with
              | x :: y :: r, _ => exact ⟨x, y, r, rfl⟩
              | [], hs => exact absurd (by simp) hs
              | [_], hs => exact absurd (by simp) hs
            simp only [List.length_cons] at hN hk
            obtain ⟨i1, i2⟩ := bo_all hE hsz (acc := acc) (many := 2) (B := 16) (p := k + 1) (by omega) (by omega) (by omega) [x, y] (r ++ [mk]) g3 (by simp; omega) rfl (by omega)
            cases hn : numOf 16 [x, y] 0 with
            | none => exact ⟨none, by rw [pgo_x, hn], bo_hex hE hsz (many := 2) (B := 16) hh (by omega) (.inl ⟨rfl, rfl, rfl⟩) (by omega) (i1 hn)⟩
            | some v =>
              have hnd2 : nd r := by
                have hq := num_hv (B := 16) (by omega) [x, y] 0 (by omega)
                rw [hn] at hq
                cases h0 : hv 16 [x, y] 0 with
                | none => rw [h0] at hq; cases hq
                | some u => exact nd_hv (by omega) r h0 hnd
              obtain ⟨q1, q2, q3⟩ := at_drop (r := y :: (r ++ [mk])) g3
              obtain ⟨q4, q5, q6⟩ := at_drop (r := r ++ [mk]) q3
              obtain ⟨o, ho, he⟩ := bo_main mk N r (acc ++ [(v : Int)]) (k + 4) (by omega) q6 hnd2 (by simp; omega)
              exact ⟨o, by rw [pgo_x, hn]; exact ho, bo_hex hE hsz (many := 2) (B := 16) hh (by omega) (.inl ⟨rfl, rfl, rfl⟩) (by omega) (i2 v _ hn he)⟩
        · by_cases h48 : e = 48
          · subst h48
            by_cases hs : t.length < 3
            · exact ⟨none, pgo_o_short acc t hs, bo_hex hE hsz (many := 3) (B := 8) hh (by omega) (.inr ⟨rfl, rfl, rfl⟩) (by omega) (bo_few hE hsz (by omega) (by omega) t [mk] g3 (by omega) hs)⟩
            · obtain ⟨x, y, z, r, rfl⟩ : ∃ x y z r, t = x :: y :: z :: r := by
                match t, hs with
                | x :: y :: z :: r, _ => exact ⟨x, y, z, r, rfl⟩
                | [], hs => exact absurd (by simp) hs
                | [_], hs => exact absurd (by simp) hs
                | [_, _], hs => exact absurd (by simp) hs
              simp only [List.length_cons] at hN hk
              obtain ⟨i1, i2⟩ := bo_all hE hsz (acc := acc) (many := 3) (B := 8) (p := k + 1) (by omega) (by omega) (by omega) [x, y, z] (r ++ [mk]) g3 (by simp; omega) rfl (by omega)
              cases hn : numOf 8 [x, y, z] 0 with
              | none => exact ⟨none, by rw [pgo_o, hn], bo_hex hE hsz (many := 3) (B := 8) hh (by omega) (.inr ⟨rfl, rfl, rfl⟩) (by omega) (i1 hn)⟩
              | some v =>
                have hnd2 : nd r := by
                  have hq := num_hv (B := 8) (by omega) [x, y, z] 0 (by omega)
                  rw [hn] at hq
                  cases h0 : hv 8 [x, y, z] 0 with
                  | none => rw [h0] at hq; cases hq
                  | some u => exact nd_hv (by omega) r h0 hnd
                obtain ⟨q1, q2, q3⟩ := at_drop (r := y :: z :: (r ++ [mk])) g3
                obtain ⟨q4, q5, q6⟩ := at_drop (r := z :: (r ++ [mk])) q3
                obtain ⟨q7, q8, q9⟩ := at_drop (r := r ++ [mk]) q6
                obtain ⟨o, ho, he⟩ := bo_main mk N r (acc ++ [(v : Int)]) (k + 5) (by omega) q9 hnd2 (by simp; omega)
                exact ⟨o, by rw [pgo_o, hn]; exact ho, bo_hex hE hsz (many := 3) (B := 8) hh (by omega) (.inr ⟨rfl, rfl, rfl⟩) (by omega) (i2 v _ hn he)⟩
          · obtain ⟨o, ho, he⟩ := bo_main mk N t (acc ++ [escOf e]) (k + 2) (by omega) g3 hnd (by simp; omega)
            exact ⟨o, by rw [pgo_esc h120 h48]; exact ho, bo_esc hE hsz hh (by omega) h120 h48 (by omega) he⟩
    · rw [nd_plain hc] at hnd
      obtain ⟨o, ho, he⟩ := bo_main mk N rest (acc ++ [(c.toNat : Int)]) (k + 1) (by omega) h3 hnd (by simp; omega)
      exact ⟨o, by rw [pgo_plain hc]; exact ho, bo_plain hE hsz (r := rest ++ [mk]) h (by omega) hc (by omega) he⟩
end
end Go.Proofs.YtngbhojjjkdofaaDoor.Pure
