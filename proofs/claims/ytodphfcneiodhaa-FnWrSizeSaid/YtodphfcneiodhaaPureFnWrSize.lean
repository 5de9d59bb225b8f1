/- The fixed size of a valid signature is the sum of its types' bytes, and 0 if another type is in it. -/
import Derived.Test.YtodphfcneiodhaaMFnWrSizey
namespace Go.Proofs.Ytodphfcneiodhaa.Pure
open Go Go.RowKit Go.Proofs.Ytodphfcneiodhaa.MFnWrSize Go.Proofs.YtodphfcneiodhaaW.PrintWords Go.Proofs.YtodphfcneiodhaaW.PrintLast Go.Proofs.Ytodphfcneiodhaa.Hlp Go.Proofs.Ytodphfcneiodhaa.SgT Go.Proofs.Ytodphfcneiodhaa.MFnWrSizes Go.Proofs.Ytodphfcneiodhaa.MFnWrSizey
set_option linter.unusedVariables false

theorem wj {x : Int} (h1 : -1000000 ≤ x) (h2 : x ≤ 1000000) : wrap64 x = x := w64 (by omega) (by omega)
theorem at_drop {s : ByteArray} {p : Nat} {c : UInt8} {r : List UInt8} (h : (bl s).drop p = c :: r) : bt s (p : Int) = (c.toNat : Int) := bt_drop h
theorem lt_drop {s : ByteArray} {p : Nat} {c : UInt8} {r : List UInt8} (h : (bl s).drop p = c :: r) : p < s.size := by
  have := congrArg List.length h
  rw [List.length_drop, bl_len] at this
  simp only [List.length_cons] at this; omega
theorem next_drop {s : ByteArray} {p : Nat} {c : UInt8} {r : List UInt8} (h : (bl s).drop p = c :: r) : (bl s).drop (p + 1) = r := by
  rw [← List.drop_drop, h]; rfl

/-! The sizes of letters, and their sum. -/
def szC (c : UInt8) : Nat :=
  if c = 121 then 1 else if c = 110 ∨ c = 113 then 2 else if c = 98 ∨ c = 105 ∨ c = 117 ∨ c = 104 then 4 else if c = 120 ∨ c = 116 ∨ c = 100 then 8 else 0
def good (c : UInt8) : Bool := decide (0 < szC c) || c == 40 || c == 41
def val : List UInt8 → Option Nat
  | [] => some 0
  | c :: r => if good c = true then (val r).map (fun n => szC c + n) else none
theorem szC_le (c : UInt8) : szC c ≤ 8 := by unfold szC; split <;> (try split) <;> (try split) <;> (try split) <;> omega
theorem val_append (a b : List UInt8) : val (a ++ b) = (val a).bind fun x => (val b).map fun y => x + y := by
  induction a with
  | nil => simp [val]
  | cons c a ih =>
    simp only [List.cons_append, val]
    by_cases h : good c = true
    · rw [if_pos h, if_pos h, ih]
      cases val a <;> cases val b <;> simp [Nat.add_assoc]
    · rw [if_neg h, if_neg h]; rfl
theorem val_le : ∀ {l : List UInt8} {n : Nat}, val l = some n → n ≤ 8 * l.length
  | [], n, h => by simp [val] at h; omega
  | c :: r, n, h => by
    simp only [val] at h
    by_cases hg : good c = true
    · rw [if_pos hg] at h
      cases hv : val r with
      | none => rw [hv] at h; cases h
      | some m =>
        rw [hv] at h
        have := val_le hv
        have := szC_le c
        simp at h
        simp only [List.length_cons]; omega
    · rw [if_neg hg] at h; cases h
theorem good_97 : good 97 = false := by decide
theorem val_pos {A B E : Int} {x : List UInt8} (t : T A B E x) : val x ≠ some 0 := by
  refine T.ind (P := fun A B E l => val l ≠ some 0) ?_ ?_ ?_ ?_ t
  · intro A B E c _ _ _ hc h
    obtain ⟨_, _, h40, h41, _⟩ := one_ascii c hc
    simp only [val] at h
    by_cases hg : good c = true
    · rw [if_pos hg] at h
      simp [good, h40, h41] at hg
      simp at h; omega
    · rw [if_neg hg] at h; cases h
  · intro A B E x _ _ _ _ _ h
    simp only [val] at h; rw [if_neg (by decide)] at h; cases h
  · intro A B E c x _ _ _ _ _ _ h
    rw [val, if_neg (by decide)] at h; cases h
  · intro A B E xs _ _ _ hn _ ih h
    cases xs with
    | nil => exact hn rfl
    | cons y ys =>
      have h1 := ih y List.mem_cons_self
      rw [val, if_pos (by decide)] at h
      simp only [List.flatten_cons, val_append] at h
      cases hv : val y with
      | none => rw [hv] at h; cases h
      | some m =>
        rw [hv] at h
        have : m ≠ 0 := fun q => h1 (by rw [hv, q])
        cases hw : val ys.flatten with
        | none => rw [hw] at h; cases h
        | some m2 =>
          rw [hw] at h
          simp [val, good] at h; omega
theorem flat_pos {A B E : Int} {xs : List (List UInt8)} (hn : xs ≠ []) (hx : ∀ x ∈ xs, T A B E x) : val xs.flatten ≠ some 0 := by
  intro h
  cases xs with
  | nil => exact hn rfl
  | cons y ys =>
    have h1 := val_pos (hx y List.mem_cons_self)
    simp only [List.flatten_cons, val_append] at h
    cases hv : val y with
    | none => rw [hv] at h; cases h
    | some m =>
      rw [hv] at h
      have : m ≠ 0 := fun q => h1 (by rw [hv, q])
      cases hw : val ys.flatten with
      | none => rw [hw] at h; cases h
      | some m2 => rw [hw] at h; simp at h; omega

/-! The walk over the letters, one at a time. -/
theorem st0 {s : ByteArray} {o : Nat} {c : UInt8} {z : List UInt8} (h : (bl s).drop o = c :: z) (t : Int) (k : Nat) (hc : c ≠ 121) :
    dbus_sigByteSize.l0 (k + 1) s t (o : Int) = dbus_sigByteSize.j1 k s t (o : Int) (c.toNat : Int) (c == 110 || c == 113) := by
  have hlt := lt_drop h
  simp only [dbus_sigByteSize.l0]
  rw [if_pos (by omega), if_pos (by omega), at_drop h, if_neg (show ¬ (c.toNat : Int) = 121 from fun q => hc ((num_eq 121).mp q))]
  by_cases h1 : c = 110
  · subst h1; rw [if_pos (by rfl)]; rfl
  · rw [if_neg (show ¬ (c.toNat : Int) = 110 from fun q => h1 ((num_eq 110).mp q)), beq_eq_false_iff_ne.mpr h1, Bool.false_or]
    congr 1
    rw [Bool.eq_iff_iff, beq_iff_eq, beq_iff_eq]; exact num_eq 113
theorem st1 (s : ByteArray) (o : Int) (c : UInt8) (t : Int) (k : Nat) :
    dbus_sigByteSize.j1 (k + 1) s t o (c.toNat : Int) false = dbus_sigByteSize.j2 k s t o (c.toNat : Int) (c == 98 || c == 105 || c == 117 || c == 104) := by
  simp only [dbus_sigByteSize.j1]
  rw [if_neg (by decide)]
  by_cases h1 : c = 98
  · subst h1; rw [if_pos (by rfl)]; rfl
  rw [if_neg (show ¬ (c.toNat : Int) = 98 from fun q => h1 ((num_eq 98).mp q)), beq_eq_false_iff_ne.mpr h1, Bool.false_or]
  by_cases h2 : c = 105
  · subst h2; rw [if_pos (by rfl)]; rfl
  rw [if_neg (show ¬ (c.toNat : Int) = 105 from fun q => h2 ((num_eq 105).mp q)), beq_eq_false_iff_ne.mpr h2, Bool.false_or]
  by_cases h3 : c = 117
  · subst h3; rw [if_pos (by rfl)]; rfl
  rw [if_neg (show ¬ (c.toNat : Int) = 117 from fun q => h3 ((num_eq 117).mp q)), beq_eq_false_iff_ne.mpr h3, Bool.false_or]
  congr 1
  rw [Bool.eq_iff_iff, beq_iff_eq, beq_iff_eq]; exact num_eq 104
theorem st2 (s : ByteArray) (o : Int) (c : UInt8) (t : Int) (k : Nat) :
    dbus_sigByteSize.j2 (k + 1) s t o (c.toNat : Int) false = dbus_sigByteSize.j3 k s t o (c.toNat : Int) (c == 120 || c == 116 || c == 100) := by
  simp only [dbus_sigByteSize.j2]
  rw [if_neg (by decide)]
  by_cases h1 : c = 120
  · subst h1; rw [if_pos (by rfl)]; rfl
  rw [if_neg (show ¬ (c.toNat : Int) = 120 from fun q => h1 ((num_eq 120).mp q)), beq_eq_false_iff_ne.mpr h1, Bool.false_or]
  by_cases h2 : c = 116
  · subst h2; rw [if_pos (by rfl)]; rfl
  rw [if_neg (show ¬ (c.toNat : Int) = 116 from fun q => h2 ((num_eq 116).mp q)), beq_eq_false_iff_ne.mpr h2, Bool.false_or]
  congr 1
  rw [Bool.eq_iff_iff, beq_iff_eq, beq_iff_eq]; exact num_eq 100
theorem sized {s : ByteArray} {o : Nat} {c : UInt8} {z : List UInt8} (h : (bl s).drop o = c :: z) (hs : s.size ≤ 1000) {t : Int} (ht : 0 ≤ t) (ht2 : t ≤ 100000) (hc : 0 < szC c) {r : Int}
    (hr : Ev (fun k => dbus_sigByteSize.l0 k s (t + (szC c : Int)) ((o + 1 : Nat) : Int)) r) : Ev (fun k => dbus_sigByteSize.l0 k s t (o : Int)) r := by
  have hlt := lt_drop h
  have wo : wrap64 ((o : Int) + 1) = ((o + 1 : Nat) : Int) := wj (by omega) (by omega)
  have two : ∀ c : UInt8, (c == 110 || c == 113) = true → szC c = 2 := by
    intro c h; simp only [Bool.or_eq_true, beq_iff_eq] at h; rcases h with rfl | rfl <;> rfl
  have four : ∀ c : UInt8, (c == 98 || c == 105 || c == 117 || c == 104) = true → szC c = 4 := by
    intro c h; simp only [Bool.or_eq_true, beq_iff_eq] at h; rcases h with ((rfl | rfl) | rfl) | rfl <;> rfl
  have eight : ∀ c : UInt8, (c == 120 || c == 116 || c == 100) = true → szC c = 8 := by
    intro c h; simp only [Bool.or_eq_true, beq_iff_eq] at h; rcases h with (rfl | rfl) | rfl <;> rfl
  by_cases h121 : c = 121
  · subst h121
    refine Ev.step (fun k => ?_) hr
    simp only [dbus_sigByteSize.l0]
    rw [if_pos (by omega), if_pos (by omega), at_drop h, if_pos (by rfl), wo, wj (x := t + 1) (by omega) (by omega)]; rfl
  refine Ev.step (fun k => st0 h t k h121) ?_
  cases c2 : (c == 110 || c == 113) with
  | true =>
    rw [two c c2] at hr
    refine Ev.step (fun k => ?_) hr
    simp only [dbus_sigByteSize.j1]
    rw [if_pos trivial, wo, wj (x := t + 2) (by omega) (by omega)]; rfl
  | false =>
  refine Ev.step (fun k => st1 s o c t k) ?_
  cases c4 : (c == 98 || c == 105 || c == 117 || c == 104) with
  | true =>
    rw [four c c4] at hr
    refine Ev.step (fun k => ?_) hr
    simp only [dbus_sigByteSize.j2]
    rw [if_pos trivial, wo, wj (x := t + 4) (by omega) (by omega)]; rfl
  | false =>
  refine Ev.step (fun k => st2 s o c t k) ?_
  cases c8 : (c == 120 || c == 116 || c == 100) with
  | true =>
    rw [eight c c8] at hr
    refine Ev.step (fun k => ?_) hr
    simp only [dbus_sigByteSize.j3]
    rw [if_pos trivial, wo, wj (x := t + 8) (by omega) (by omega)]; rfl
  | false =>
    exfalso
    simp at c2 c4 c8
    simp [szC, h121, c2, c4, c8] at hc
theorem unsized {s : ByteArray} {o : Nat} {c : UInt8} {z : List UInt8} (h : (bl s).drop o = c :: z) (t : Int) (hc : szC c = 0) {r : Int}
    (hr : Ev (fun k => if (c.toNat : Int) = 40 then (dbus_sigByteSize.l1 k s t (o : Int) 1 1) else (some 0)) r) : Ev (fun k => dbus_sigByteSize.l0 k s t (o : Int)) r := by
  have h121 : c ≠ 121 := by intro q; subst q; exact absurd hc (by decide)
  have c2 : (c == 110 || c == 113) = false := by
    rw [Bool.eq_false_iff]; intro q; simp only [Bool.or_eq_true, beq_iff_eq] at q; rcases q with q | q <;> (subst q; exact absurd hc (by decide))
  have c4 : (c == 98 || c == 105 || c == 117 || c == 104) = false := by
    rw [Bool.eq_false_iff]; intro q; simp only [Bool.or_eq_true, beq_iff_eq] at q; rcases q with ((q | q) | q) | q <;> (subst q; exact absurd hc (by decide))
  have c8 : (c == 120 || c == 116 || c == 100) = false := by
    rw [Bool.eq_false_iff]; intro q; simp only [Bool.or_eq_true, beq_iff_eq] at q; rcases q with (q | q) | q <;> (subst q; exact absurd hc (by decide))
  refine Ev.step (fun k => st0 h t k h121) ?_
  rw [c2]
  refine Ev.step (fun k => st1 s o c t k) ?_
  rw [c4]
  refine Ev.step (fun k => st2 s o c t k) ?_
  rw [c8]
  refine Ev.step (fun k => ?_) hr
  simp only [dbus_sigByteSize.j3]
  rw [if_neg (by decide)]

/-! To the matching bracket. -/
theorem l1_in {s : ByteArray} (hs : s.size ≤ 1000) {o i : Nat} {c : UInt8} {z : List UInt8} (h : (bl s).drop (o + i) = c :: z) (t : Int) {d : Nat} (hd : 1 ≤ d) (hd2 : d ≤ i) (k : Nat) :
    dbus_sigByteSize.l1 (k + 2) s t (o : Int) (i : Int) (d : Int) = if c = 40 then dbus_sigByteSize.l1 k s t (o : Int) ((i + 1 : Nat) : Int) ((d + 1 : Nat) : Int) else if c = 41 then dbus_sigByteSize.l1 k s t (o : Int) ((i + 1 : Nat) : Int) ((d - 1 : Nat) : Int) else dbus_sigByteSize.l1 k s t (o : Int) ((i + 1 : Nat) : Int) (d : Int) := by
  have hlt := lt_drop h
  have e : dbus_sigByteSize.l1 (k + 2) s t (o : Int) (i : Int) (d : Int) = dbus_sigByteSize.j5 (k + 1) s t (o : Int) (i : Int) (d : Int) true := by
    simp only [dbus_sigByteSize.l1]
    have : ((d : Int) != 0) = true := by rw [bne_iff_ne]; omega
    rw [if_pos (by omega), if_pos (by omega), Int.toNat_natCast, size_drop, if_pos (by omega), this]
  rw [e]
  simp only [dbus_sigByteSize.j5]
  have e1 : wrap64 ((o : Int) + (i : Int)) = ((o + i : Nat) : Int) := by rw [wj (by omega) (by omega)]; omega
  have e2 : wrap64 ((i : Int) + 1) = ((i + 1 : Nat) : Int) := wj (by omega) (by omega)
  have e3 : wrap64 ((d : Int) + 1) = ((d + 1 : Nat) : Int) := wj (by omega) (by omega)
  have e4 : wrap64 ((d : Int) - 1) = ((d - 1 : Nat) : Int) := by rw [wj (by omega) (by omega)]; omega
  rw [if_pos trivial, e1, if_pos (by omega), if_pos (by omega), at_drop h, e2, e3, e4]
  by_cases h40 : c = 40
  · rw [if_pos h40, if_pos (show (c.toNat : Int) = 40 from (num_eq 40).mpr h40)]
  rw [if_neg h40, if_neg (show ¬ (c.toNat : Int) = 40 from fun q => h40 ((num_eq 40).mp q))]
  by_cases h41 : c = 41
  · rw [if_pos h41, if_pos (show (c.toNat : Int) = 41 from (num_eq 41).mpr h41)]
  rw [if_neg h41, if_neg (show ¬ (c.toNat : Int) = 41 from fun q => h41 ((num_eq 41).mp q))]
def Sk (x : List UInt8) : Prop := ∀ (s : ByteArray) (t : Int) (o i d : Nat) (z : List UInt8) (res : Int), s.size ≤ 1000 → 1 ≤ d → d ≤ i → (bl s).drop (o + i) = x ++ z →
  Ev (fun k => dbus_sigByteSize.l1 k s t (o : Int) ((i + x.length : Nat) : Int) (d : Int)) res → Ev (fun k => dbus_sigByteSize.l1 k s t (o : Int) (i : Int) (d : Int)) res
theorem two_steps {s : ByteArray} {t o i d : Int} {f : Nat → Option Int} {r : Int} (h : ∀ k, dbus_sigByteSize.l1 (k + 2) s t o i d = f k) (hf : Ev f r) : Ev (fun k => dbus_sigByteSize.l1 k s t o i d) r :=
  Ev.step (f := fun k => dbus_sigByteSize.l1 (k + 1) s t o i d) (fun k => rfl) (Ev.step h hf)
theorem Sk.nil : Sk [] := fun s t o i d z res _ _ _ _ h => h
theorem Sk.app {x y : List UInt8} (hx : Sk x) (hy : Sk y) : Sk (x ++ y) := by
  intro s t o i d z res hs h1 h2 hb hr
  refine hx s t o i d (y ++ z) res hs h1 h2 (by rw [hb, List.append_assoc]) ?_
  refine hy s t o (i + x.length) d z res hs h1 (by omega) ?_ ?_
  · rw [← Nat.add_assoc, ← List.drop_drop, hb, List.append_assoc, List.drop_left]
  · rw [List.length_append] at hr; rw [Nat.add_assoc]; exact hr
theorem Sk.one {c : UInt8} (h1 : c ≠ 40) (h3 : c ≠ 41) : Sk [c] := by
  intro s t o i d z res hs hd1 hd2 hb hr
  exact two_steps (fun k => by rw [l1_in hs hb t hd1 hd2 k, if_neg h1, if_neg h3]; rfl) hr
theorem Sk.wrap {y : List UInt8} (hy : Sk y) : Sk (40 :: (y ++ [41])) := by
  intro s t o i d z res hs hd1 hd2 hb hr
  have hb1 : (bl s).drop (o + (i + 1)) = y ++ (41 :: z) := by rw [← Nat.add_assoc, next_drop hb]; simp
  have hb2 : (bl s).drop (o + (i + 1 + y.length)) = 41 :: z := by rw [← Nat.add_assoc, ← List.drop_drop, hb1, List.drop_left]
  refine two_steps (f := fun k => dbus_sigByteSize.l1 k s t (o : Int) ((i + 1 : Nat) : Int) ((d + 1 : Nat) : Int)) (fun k => by rw [l1_in hs hb t hd1 hd2 k, if_pos rfl]) ?_
  refine hy s t o (i + 1) (d + 1) (41 :: z) res hs (by omega) (by omega) hb1 ?_
  refine two_steps (fun k => by rw [l1_in hs hb2 t (by omega) (by omega) k, if_neg (by decide), if_pos rfl]) ?_
  have e : i + (40 :: (y ++ [41])).length = i + 1 + y.length + 1 := by simp only [List.length_cons, List.length_append, List.length_nil]; omega
  rw [e] at hr
  rw [Nat.add_sub_cancel]
  exact hr
theorem Sk.flat : ∀ {xs : List (List UInt8)}, (∀ x ∈ xs, Sk x) → Sk xs.flatten
  | [], _ => Sk.nil
  | x :: xs, h => by
    rw [List.flatten_cons]
    exact Sk.app (h x List.mem_cons_self) (Sk.flat (fun y hy => h y (List.mem_cons_of_mem _ hy)))
theorem sk {A B E : Int} {x : List UInt8} (t : T A B E x) : Sk x := by
  refine T.ind (P := fun A B E l => Sk l) ?_ ?_ ?_ ?_ t
  · intro A B E c _ _ _ hc
    obtain ⟨_, _, h40, h41, h123, h125⟩ := one_ascii c hc
    exact Sk.one h40 h41
  · intro A B E x _ _ _ _ ih
    exact Sk.app (x := [97]) (Sk.one (by decide) (by decide)) ih
  · intro A B E c x _ _ _ hc _ ih
    obtain ⟨_, _, h40, h41, h123, h125⟩ := one_ascii c (by simp [oneC, hc])
    exact Sk.app (x := [97, 123, c]) (y := x ++ [125]) (Sk.app (x := [97]) (y := [123, c]) (Sk.one (by decide) (by decide)) (Sk.app (x := [123]) (y := [c]) (Sk.one (by decide) (by decide)) (Sk.one h40 h41))) (Sk.app ih (Sk.one (by decide) (by decide)))
  · intro A B E xs _ _ _ _ _ ih
    exact Sk.wrap (Sk.flat ih)
/-- A struct: what is within it is asked for. -/
theorem at_struct {s : ByteArray} (hs : s.size ≤ 1000) {o : Nat} {y z : List UInt8} (hy : Sk y) (hb : (bl s).drop o = 40 :: (y ++ 41 :: z)) (t : Int) {v : Nat} (hv : v ≤ 100000) (ht : 0 ≤ t) (ht2 : t ≤ 100000)
    (hf : Ev (fun k => dbus_sigByteSize.f k (s.extract (o + 1) (o + 1 + y.length))) (v : Int)) {r : Int}
    (hr : Ev (fun k => if (v : Int) = 0 then some 0 else dbus_sigByteSize.l0 k s (t + v) ((o + (y.length + 2) : Nat) : Int)) r) : Ev (fun k => dbus_sigByteSize.l1 k s t (o : Int) 1 1) r := by
  have hlt := lt_drop hb
  have hb1 : (bl s).drop (o + 1) = y ++ (41 :: z) := next_drop hb
  have hb2 : (bl s).drop (o + (1 + y.length)) = 41 :: z := by rw [← Nat.add_assoc, ← List.drop_drop, hb1, List.drop_left]
  have hlt2 := lt_drop hb2
  refine hy s t o 1 1 (41 :: z) r hs (by omega) (by omega) hb1 ?_
  refine two_steps (f := fun k => dbus_sigByteSize.l1 k s t (o : Int) ((1 + y.length + 1 : Nat) : Int) 0) (fun k => by rw [l1_in hs hb2 t (by omega) (by omega) k, if_neg (by decide), if_pos rfl]; rfl) ?_
  refine Ev.step (f := fun k => dbus_sigByteSize.j5 k s t (o : Int) ((1 + y.length + 1 : Nat) : Int) 0 false) (fun k => ?_) ?_
  · simp only [dbus_sigByteSize.l1]
    rw [if_pos (by omega), if_pos (by omega)]
    have : ((0 : Int) != 0) = false := rfl
    rw [this]
    split <;> rfl
  have e1 : wrap64 ((o : Int) + 1) = ((o + 1 : Nat) : Int) := wj (by omega) (by omega)
  have e2 : wrap64 ((o : Int) + ((1 + y.length + 1 : Nat) : Int)) = ((o + (y.length + 2) : Nat) : Int) := by rw [wj (by omega) (by omega)]; omega
  have e3 : wrap64 (((o + (y.length + 2) : Nat) : Int) - 1) = ((o + 1 + y.length : Nat) : Int) := by rw [wj (by omega) (by omega)]; omega
  refine Ev.step (f := fun k => (dbus_sigByteSize.f k (s.extract (o + 1) (o + 1 + y.length))).bind fun t115 => (if t115 = 0 then (some 0) else (dbus_sigByteSize.l0 k s (wrap64 (t + t115)) ((o + (y.length + 2) : Nat) : Int)))) (fun k => ?_) ?_
  · simp only [dbus_sigByteSize.j5]
    rw [if_neg (by decide), e1, e2, e3, if_pos (by omega), if_pos (by omega), if_pos (by omega), Int.toNat_natCast, Int.toNat_natCast]
  · refine Ev.bind hf ?_
    rw [wj (x := t + v) (by omega) (by omega)]
    exact hr

/-- What the package says of complete types one behind the other. -/
def res (t : Int) (l : List UInt8) : Int := match val l with
  | some n => t + n
  | none => 0
theorem res_bad {t : Int} {c : UInt8} (l : List UInt8) (h : good c = false) : res t (c :: l) = 0 := by
  unfold res; rw [val, if_neg (by rw [h]; decide)]
theorem size_l (m : Nat) : ∀ (s : ByteArray) (o : Nat) (t : Int) (xs : List (List UInt8)) (A B E : Int), s.size - o = m → s.size ≤ 1000 → 0 ≤ t → t + 8 * (s.size - o : Nat) ≤ 50000 → (∀ x ∈ xs, T A B E x) → (bl s).drop o = xs.flatten →
    Ev (fun k => dbus_sigByteSize.l0 k s t (o : Int)) (res t xs.flatten) := by
  induction m using Nat.strongRecOn with
  | _ m ih =>
  intro s o t xs A B E hm hs ht ht2 hx hb
  cases xs with
  | nil =>
    have hnl : ¬ o < s.size := by
      have := congrArg List.length hb
      rw [List.length_drop, bl_len] at this
      simp at this; omega
    refine Ev.step (f := fun _ => some t) (fun k => ?_) (by simp [res, val]; exact Ev.now _)
    simp only [dbus_sigByteSize.l0]; rw [if_neg (by omega)]
  | cons x xs =>
    have tx := hx x List.mem_cons_self
    have hxs : ∀ y ∈ xs, T A B E y := fun y hy => hx y (List.mem_cons_of_mem _ hy)
    rw [List.flatten_cons] at hb ⊢
    have h97 : ∀ w : List UInt8, (bl s).drop o = 97 :: w → Ev (fun k => dbus_sigByteSize.l0 k s t (o : Int)) 0 := fun w hw =>
      unsized hw t (by decide) (ev_ite_neg (by decide) (fun _ => rfl) (Ev.now _))
    obtain ⟨_, _, _, hh⟩ := tx.cases
    rcases hh with ⟨c, hc, rfl⟩ | ⟨y, hy, rfl⟩ | ⟨c, y, hc, hy, rfl⟩ | ⟨ys, hn, hys, rfl⟩
    · have hlt := lt_drop (s := s) (p := o) (c := c) (r := xs.flatten) hb
      obtain ⟨_, _, h40, h41, _⟩ := one_ascii c hc
      by_cases hz : 0 < szC c
      · have h8 := szC_le c
        refine sized hb hs ht (by omega) hz ?_
        have h2 := ih (s.size - (o + 1)) (by omega) s (o + 1) (t + (szC c : Int)) xs A B E rfl hs (by omega) (by omega) hxs (next_drop hb)
        have e : res (t + (szC c : Int)) xs.flatten = res t ([c] ++ xs.flatten) := by
          unfold res
          rw [List.singleton_append, val, if_pos (by simp [good, hz])]
          cases val xs.flatten with
          | none => rfl
          | some n => simp [Int.add_assoc]
        rw [e] at h2; exact h2
      · have hg : good c = false := by simp [good, hz, h40, h41]
        rw [List.singleton_append, res_bad _ hg]
        exact unsized hb t (by omega) (ev_ite_neg (fun q => h40 ((num_eq 40).mp q)) (fun _ => rfl) (Ev.now _))
    · rw [List.cons_append, res_bad _ good_97]; exact h97 _ hb
    · rw [List.cons_append, res_bad _ good_97]; exact h97 _ hb
    · have hb' : (bl s).drop o = 40 :: (ys.flatten ++ 41 :: xs.flatten) := by rw [hb]; simp
      have hlt := lt_drop hb'
      have hlen : s.size - o = ys.flatten.length + 2 + xs.flatten.length := by
        have := congrArg List.length hb'
        rw [List.length_drop, bl_len] at this
        simp only [List.length_cons, List.length_append] at this; omega
      have hin : bl (s.extract (o + 1) (o + 1 + ys.flatten.length)) = ys.flatten := by
        rw [bl_extract, next_drop hb', Nat.add_sub_cancel_left, List.take_left]
      have hins : (s.extract (o + 1) (o + 1 + ys.flatten.length)).size = ys.flatten.length := by rw [← bl_len, hin]
      have h1 := ih ((s.extract (o + 1) (o + 1 + ys.flatten.length)).size - 0) (by omega) (s.extract (o + 1) (o + 1 + ys.flatten.length)) 0 0 ys A (B - 1) E rfl (by omega) (by omega) (by omega) hys (by rw [List.drop_zero]; exact hin)
      have hf : Ev (fun k => dbus_sigByteSize.f k (s.extract (o + 1) (o + 1 + ys.flatten.length))) (((val ys.flatten).getD 0 : Nat) : Int) := by
        refine Ev.step (f := fun k => dbus_sigByteSize.l0 k (s.extract (o + 1) (o + 1 + ys.flatten.length)) 0 0) (fun k => ?_) ?_
        · simp only [dbus_sigByteSize.f]
        · have e : res 0 ys.flatten = (((val ys.flatten).getD 0 : Nat) : Int) := by unfold res; cases val ys.flatten <;> simp
          rw [e] at h1; exact h1
      have hskip : Sk ys.flatten := Sk.flat (fun y hy => sk (hys y hy))
      refine unsized hb' t (by decide) (ev_ite_pos (by rfl) (fun _ => rfl) ?_)
      have hvl : (val ys.flatten).getD 0 ≤ 8 * ys.flatten.length := by
        cases hv : val ys.flatten with
        | none => simp
        | some n => exact val_le hv
      refine at_struct hs hskip hb' t (by omega) ht (by omega) hf ?_
      cases hv : val ys.flatten with
      | none =>
        have e : res t (40 :: (ys.flatten ++ [41]) ++ xs.flatten) = 0 := by
          unfold res
          rw [List.cons_append, val, if_pos (by decide), List.append_assoc, val_append, hv]; rfl
        rw [e]
        exact ev_ite_pos (by rfl) (fun _ => rfl) (Ev.now _)
      | some n =>
        have hn0 : n ≠ 0 := fun q => flat_pos hn hys (by rw [hv, q])
        have hnl := val_le hv
        have e : res t (40 :: (ys.flatten ++ [41]) ++ xs.flatten) = res (t + n) xs.flatten := by
          unfold res
          rw [List.cons_append, val, if_pos (by decide), List.append_assoc, val_append, hv, List.singleton_append, val, if_pos (by decide)]
          cases val xs.flatten with
          | none => rfl
          | some m => simp [szC, Int.add_assoc]
        rw [e]
        refine ev_ite_neg (show ¬ ((n : Int) = 0) by omega) (fun _ => rfl) ?_
        refine ih (s.size - (o + (ys.flatten.length + 2))) (by omega) s (o + (ys.flatten.length + 2)) (t + n) xs A B E rfl hs (by omega) (by omega) hxs ?_
        rw [show o + (ys.flatten.length + 2) = o + 1 + ys.flatten.length + 1 by omega]
        refine next_drop (c := 41) ?_
        rw [← List.drop_drop, next_drop hb', List.drop_left]
theorem size_f {s : ByteArray} (hs : s.size ≤ 1000) {xs : List (List UInt8)} (hx : ∀ x ∈ xs, T 32 32 32 x) (hb : bl s = xs.flatten) : Ev (fun k => impl_WrSize.f k s) (((val (bl s)).getD 0 : Nat) : Int) := by
  have h := size_l (s.size - 0) s 0 0 xs 32 32 32 rfl hs (by omega) (by omega) hx (by rw [List.drop_zero]; exact hb)
  have e : res 0 xs.flatten = (((val (bl s)).getD 0 : Nat) : Int) := by unfold res; rw [hb]; cases val xs.flatten <;> simp
  rw [e] at h
  have hf : Ev (fun k => dbus_sigByteSize.f k s) (((val (bl s)).getD 0 : Nat) : Int) := by
    refine Ev.step (f := fun k => dbus_sigByteSize.l0 k s 0 0) (fun k => ?_) ?_
    · simp only [dbus_sigByteSize.f]
    · exact h
  unfold impl_WrSize.f dbus_DoorSize.f
  exact Ev.bind (Ev.bind hf (Ev.now _)) (Ev.now _)

theorem size_fin : ∀ n : Fin 256, spec_Size.f 5 (n.val : Int) = some ((szC (UInt8.ofNat n.val) : Nat) : Int) := by decide +kernel
theorem size_c (c : UInt8) : Ev (fun k => spec_Size.f k (c.toNat : Int)) ((szC c : Nat) : Int) := by
  refine Ev.of (spec_Size.mono _) (k := 5) ?_
  have := size_fin ⟨c.toNat, c.toNat_lt⟩
  simpa using this

theorem nt : Ev (fun k => impl_WrSize.f k (⟨#[110, 116]⟩ : ByteArray)) 10 :=
  size_f (s := ⟨#[110, 116]⟩) (xs := [[110], [116]]) (by decide) (by
    intro x hx
    rcases List.mem_cons.mp hx with rfl | hx
    · exact T.one (by omega) (by omega) (by omega) (by decide)
    · rw [List.mem_singleton.mp hx]; exact T.one (by omega) (by omega) (by omega) (by decide)) rfl

theorem law_l (s : ByteArray) (hs : s.size ≤ 1000) (hw : Ev (fun k => impl_WrSize.f k s) (((val (bl s)).getD 0 : Nat) : Int)) (d : Nat) : ∀ (i n : Nat), s.size - i = d → i ≤ s.size → n ≤ 8 * i → val (bl s) = (val ((bl s).drop i)).map (fun m => n + m) →
    Ev (fun k => laws_FnWrSize.l0 k s (n : Int) (i : Int)) true := by
  induction d using Nat.strongRecOn with
  | _ d ih =>
  intro i n hd hi hn hv
  cases hc : (bl s).drop i with
  | nil =>
    have hnl : ¬ i < s.size := by
      have := congrArg List.length hc
      rw [List.length_drop, bl_len] at this
      simp at this; omega
    rw [hc] at hv
    rw [hv] at hw
    refine Ev.step (f := fun k => (impl_WrSize.f k s).bind fun t119 => (if t119 = (n : Int) then ((impl_WrSize.f k (⟨#[110, 116]⟩ : ByteArray)).bind fun t120 => (some (t120 == 10))) else (some false))) (fun k => ?_) ?_
    · simp only [laws_FnWrSize.l0]; rw [if_neg (by omega)]
    · exact Ev.bind hw (ev_ite_pos (by simp [val]) (fun _ => rfl) (Ev.bind nt (Ev.now _)))
  | cons c z =>
    have hlt := lt_drop hc
    have h8 := szC_le c
    have w1 : wrap64 ((n : Int) + ((szC c : Nat) : Int)) = ((n + szC c : Nat) : Int) := by rw [wj (by omega) (by omega)]; omega
    have w2 : wrap64 ((i : Int) + 1) = ((i + 1 : Nat) : Int) := wj (by omega) (by omega)
    have next : good c = true → Ev (fun k => laws_FnWrSize.l0 k s ((n + szC c : Nat) : Int) ((i + 1 : Nat) : Int)) true := fun hg => by
      refine ih (s.size - (i + 1)) (by omega) (i + 1) (n + szC c) rfl (by omega) (by omega) ?_
      rw [hv, hc, val, if_pos hg, next_drop hc]
      cases val z with
      | none => rfl
      | some m => simp [Nat.add_assoc]
    have st : ∀ k, laws_FnWrSize.l0 (k + 1) s (n : Int) (i : Int) = (spec_Size.f k (c.toNat : Int)).bind fun t121 => (if t121 > 0 then (laws_FnWrSize.l0 k s (wrap64 ((n : Int) + t121)) (wrap64 ((i : Int) + 1))) else (if (c.toNat : Int) = 40 then (laws_FnWrSize.j1 k s (n : Int) (i : Int) false) else (laws_FnWrSize.j1 k s (n : Int) (i : Int) ((c.toNat : Int) != 41)))) := by
      intro k
      simp only [laws_FnWrSize.l0]
      rw [if_pos (by omega), if_pos (by omega), at_drop hc]
    refine Ev.step st (Ev.bind (size_c c) ?_)
    by_cases hz : 0 < szC c
    · refine ev_ite_pos (by omega) (fun _ => rfl) ?_
      rw [w1, w2]; exact next (by simp [good, hz])
    · have hz0 : szC c = 0 := by omega
      refine ev_ite_neg (by omega) (fun _ => rfl) ?_
      have skip : good c = true → Ev (fun k => laws_FnWrSize.j1 k s (n : Int) (i : Int) false) true := fun hg => by
        have := next hg
        rw [hz0, Nat.add_zero] at this
        refine Ev.step (fun k => ?_) this
        simp only [laws_FnWrSize.j1]; rw [if_neg (by decide), w2]
      by_cases h40 : c = 40
      · exact ev_ite_pos ((num_eq 40).mpr h40) (fun _ => rfl) (skip (by simp [good, h40]))
      refine ev_ite_neg (fun q => h40 ((num_eq 40).mp q)) (fun _ => rfl) ?_
      by_cases h41 : c = 41
      · have : ((c.toNat : Int) != 41) = false := by subst h41; rfl
        rw [this]; exact skip (by simp [good, h41])
      · have : ((c.toNat : Int) != 41) = true := by rw [bne_iff_ne]; exact fun q => h41 ((num_eq 41).mp q)
        rw [this]
        have hv0 : val (bl s) = none := by rw [hv, hc, val, if_neg (by simp [good, hz0, h40, h41])]; rfl
        rw [hv0] at hw
        refine Ev.step (f := fun k => (impl_WrSize.f k s).bind fun t122 => (if t122 = 0 then ((impl_WrSize.f k (⟨#[110, 116]⟩ : ByteArray)).bind fun t123 => (some (t123 == 10))) else (some false))) (fun k => ?_) ?_
        · simp only [laws_FnWrSize.j1]; rw [if_pos trivial]
        · exact Ev.bind hw (ev_ite_pos (by rfl) (fun _ => rfl) (Ev.bind nt (Ev.now _)))

theorem FnWrSize : laws_FnWrSize.Pure := by
  intro s hs
  apply Ev.rounds
  unfold laws_FnWrSize.f
  by_cases h1 : (s.size : Int) > 2147483647
  · exact ev_ite_pos h1 (fun _ => rfl) (Ev.now _)
  refine ev_ite_neg h1 (fun _ => rfl) ?_
  by_cases hbig : 1000000000 < s.size
  · have h2 : Ev (fun k => spec_Types.f k s) ([], false) := ev_ite_pos (by omega) (fun _ => rfl) (Ev.now _)
    exact Ev.bind (g := fun k => spec_Valid.f k s) (a := false) (Ev.bind h2 (Ev.now _)) (ev_ite_neg (by decide) (fun _ => rfl) (Ev.now _))
  obtain ⟨L, b, hL, hr⟩ := types s (by omega)
  have hV : Ev (fun k => spec_Valid.f k s) b := Ev.bind hL (Ev.now _)
  rcases hr with ⟨rfl, hsz, hg, hf⟩ | ⟨rfl, _, _⟩
  · refine Ev.bind hV (ev_ite_pos rfl (fun _ => rfl) ?_)
    exact law_l s (by omega) (size_f (by omega) hg hf) s.size 0 0 (by omega) (by omega) (by omega) (by rw [List.drop_zero]; cases val (bl s) <;> simp)
  · exact Ev.bind hV (ev_ite_neg (show ¬ (false = true) by decide) (fun _ => rfl) (Ev.now _))

end Go.Proofs.Ytodphfcneiodhaa.Pure
