/- The reference's reader of complete types says what the plain notion says: how long the first complete type of a text is, 0 if there is none. -/
import Derived.Test.YtfipimoemhbnlaaMFnSgReplacex
import Derived.Test.YtfipimoemhbnlaaSgT
namespace Go.Proofs.Ytfipimoemhbnlaa.MFnSgReplaces
open Go Go.RowKit Go.Proofs.Ytfipimoemhbnlaa.MFnSgReplace Go.Proofs.YtfipimoemhbnlaaW.PrintWords Go.Proofs.YtfipimoemhbnlaaW.PrintLast Go.Proofs.Ytfipimoemhbnlaa.Hlp Go.Proofs.Ytfipimoemhbnlaa.SgT
set_option linter.unusedVariables false

theorem bl_drop (s : ByteArray) (p : Nat) : bl (s.extract p s.size) = (bl s).drop p := by
  rw [bl_extract]; exact List.take_of_length_le (by rw [List.length_drop, bl_len]; omega)
theorem size_drop (s : ByteArray) (p : Nat) : (s.extract p s.size).size = s.size - p := by
  rw [← bl_len, bl_drop, List.length_drop, bl_len]
theorem basic_fin : ∀ n : Fin 256, spec_Basic.f (n.val : Int) = some (basicC (UInt8.ofNat n.val)) := by decide +kernel
theorem basic_f (c : UInt8) : spec_Basic.f (c.toNat : Int) = some (basicC c) := by
  have := basic_fin ⟨c.toNat, c.toNat_lt⟩
  simpa using this
theorem bt_cons {s : ByteArray} {c : UInt8} {r : List UInt8} (h : bl s = c :: r) : bt s 0 = (c.toNat : Int) := by
  have := bt_getD s 0
  rw [h] at this
  exact this
theorem bt_drop {s : ByteArray} {p : Nat} {c : UInt8} {r : List UInt8} (h : (bl s).drop p = c :: r) : bt s (p : Int) = (c.toNat : Int) := by
  rw [bt_getD]
  have e : (bl s).getD p 0 = ((bl s).drop p).getD 0 0 := by simp [List.getD_eq_getElem?_getD]
  rw [e, h]; rfl
theorem wp3 (t : Nat) (h : t ≤ 1000000000) : wrap64 ((t : Int) + 3) = ((t + 3 : Nat) : Int) := w64 (by omega) (by omega)
theorem wp4 (t : Nat) (h : t ≤ 1000000000) : wrap64 ((t : Int) + 4) = ((t + 4 : Nat) : Int) := w64 (by omega) (by omega)
theorem num_eq {c : UInt8} (d : UInt8) : (c.toNat : Int) = (d.toNat : Int) ↔ c = d := by
  constructor
  · intro h; exact UInt8.toNat_inj.mp (by exact_mod_cast h)
  · intro h; rw [h]

section
theorem f_step (k : Nat) (s : ByteArray) (A B E : Int) : spec_Complete.f (k + 1) s A B E = spec_Complete.j0 k s A B E (decide (s.size = 0 ∨ A < 0 ∨ B < 0 ∨ E < 0)) := by
  simp only [spec_Complete.f]
  by_cases h0 : s.size = 0
  · rw [if_pos ((emp_iff s).mpr h0), decide_eq_true (.inl h0)]
  rw [if_neg (fun q => h0 ((emp_iff s).mp q))]
  by_cases hA : A < 0
  · rw [if_pos hA, decide_eq_true (.inr (.inl hA))]
  rw [if_neg hA]
  by_cases hB : B < 0
  · rw [if_pos hB, decide_eq_true (.inr (.inr (.inl hB)))]
  rw [if_neg hB]
  congr 1
  exact decide_eq_decide.mpr ⟨fun h => .inr (.inr (.inr h)), fun h => by rcases h with h | h | h | h <;> first | exact absurd h h0 | exact absurd h hA | exact absurd h hB | exact h⟩
theorem j0_bad (k : Nat) (s : ByteArray) (A B E : Int) : spec_Complete.j0 (k + 1) s A B E true = some 0 := by
  simp only [spec_Complete.j0]; exact if_pos trivial
theorem j0_step (k : Nat) {s : ByteArray} {c : UInt8} {r : List UInt8} (h : bl s = c :: r) (A B E : Int) : spec_Complete.j0 (k + 1) s A B E false = spec_Complete.j1 k s A B E (oneC c) := by
  simp only [spec_Complete.j0]
  have hz : 0 < s.size := by rw [← bl_len, h]; simp
  rw [if_neg (by decide), if_pos (by omega), bt_cons h, basic_f]
  show (if basicC c = true then _ else _) = _
  by_cases hb : basicC c = true
  · rw [if_pos hb]; simp [oneC, hb]
  · rw [if_neg hb]
    congr 1
    simp only [oneC, Bool.eq_false_iff.mpr hb, Bool.false_or]
    rw [Bool.eq_iff_iff, beq_iff_eq, beq_iff_eq]
    exact num_eq 118
theorem j1_one (k : Nat) (s : ByteArray) (A B E : Int) : spec_Complete.j1 (k + 1) s A B E true = some 1 := by
  simp only [spec_Complete.j1]; exact if_pos trivial
theorem j1_dict (k : Nat) {s : ByteArray} {r : List UInt8} (h : bl s = 97 :: 123 :: r) (A B E : Int) : spec_Complete.j1 (k + 1) s A B E false = spec_Complete.j2 k s A B E true := by
  simp only [spec_Complete.j1]
  have hz : s.size = r.length + 2 := by rw [← bl_len, h]; simp
  have h1 : bt s 1 = 123 := bt_drop (s := s) (p := 1) (c := 123) (r := r) (by rw [h]; rfl)
  rw [if_neg (by decide), if_pos (by omega), bt_cons h, if_pos (by rfl), if_pos (by omega), if_pos (by omega), h1]; rfl
theorem j1_other (k : Nat) {s : ByteArray} {c : UInt8} {r : List UInt8} (h : bl s = c :: r) (hn : ¬ (c = 97 ∧ ∃ q, r = 123 :: q)) (A B E : Int) : spec_Complete.j1 (k + 1) s A B E false = spec_Complete.j2 k s A B E false := by
  simp only [spec_Complete.j1]
  have hz : s.size = r.length + 1 := by rw [← bl_len, h]; simp
  rw [if_neg (by decide), if_pos (by omega), bt_cons h]
  by_cases hc : c = 97
  · rw [if_pos (show (c.toNat : Int) = 97 from (num_eq 97).mpr hc)]
    cases r with
    | nil => rw [if_neg (by simp at hz; omega)]
    | cons d q =>
      simp only [List.length_cons] at hz
      have h1 : bt s 1 = (d.toNat : Int) := bt_drop (s := s) (p := 1) (c := d) (r := q) (by rw [h]; rfl)
      rw [if_pos (by omega), if_pos (by omega), h1]
      congr 1
      rw [beq_eq_false_iff_ne]
      intro e
      exact hn ⟨hc, q, by rw [(num_eq 123).mp e]⟩
  · rw [if_neg (show ¬ (c.toNat : Int) = 97 from fun q => hc ((num_eq 97).mp q))]
theorem j3_bad (k : Nat) (s : ByteArray) (A B E : Int) : spec_Complete.j3 (k + 1) s A B E true = some 0 := by
  simp only [spec_Complete.j3]; exact if_pos trivial
theorem j2_short (k : Nat) {s : ByteArray} (h : s.size < 4) (A B E : Int) : spec_Complete.j2 (k + 1) s A B E true = spec_Complete.j3 k s A B E true := by
  simp only [spec_Complete.j2]
  rw [if_pos trivial, if_pos (by omega)]
theorem j2_long (k : Nat) {s : ByteArray} {c : UInt8} {r : List UInt8} (h : ¬ s.size < 4) (hc : (bl s).drop 2 = c :: r) (A B E : Int) : spec_Complete.j2 (k + 1) s A B E true = spec_Complete.j3 k s A B E (!basicC c) := by
  simp only [spec_Complete.j2]
  have h1 : bt s 2 = (c.toNat : Int) := bt_drop (s := s) (p := 2) hc
  rw [if_pos trivial, if_neg (by omega), if_pos (by omega), h1, basic_f]; rfl
end

/-- How long the first complete type is. -/
def Tells (s : ByteArray) (A B E : Int) (n : Nat) : Prop :=
  (∀ x rest, T A B E x → bl s = x ++ rest → n = x.length) ∧ (0 < n → n ≤ s.size ∧ T A B E ((bl s).take n))

theorem tells_none {s : ByteArray} {A B E : Int} (h : ∀ x rest, T A B E x → ¬ bl s = x ++ rest) : Tells s A B E 0 :=
  ⟨fun x rest t e => absurd e (h x rest t), fun q => absurd q (by omega)⟩

section
variable (M : Nat) (hM : M ≤ 1000000000)
def Claim (n : Nat) : Prop := ∀ s : ByteArray, s.size ≤ n → s.size ≤ 1000000000 → ∀ A B E : Int, -5 ≤ A → A ≤ 1000 → -5 ≤ B → B ≤ 1000 → -5 ≤ E → E ≤ 1000 → ∃ n : Nat, Ev (fun k => spec_Complete.f k s A B E) (n : Int) ∧ Tells s A B E n

theorem prefix_take {x rest l : List UInt8} (h : l = x ++ rest) : l.take x.length = x := by rw [h]; simp

/-- The fields of a struct, from a place on. -/
theorem loop (N : Nat) (ih : Claim N) (s : ByteArray) (hN : s.size ≤ N + 1) (hs : s.size ≤ 1000000000) (A B E : Int) (hA : 0 ≤ A) (hA2 : A ≤ 1000) (hB : 0 ≤ B) (hB2 : B ≤ 1000) (hE : 0 ≤ E) (hE2 : E ≤ 1000) (d : Nat) :
    ∀ (pos : Nat) (xs : List (List UInt8)) (tail : List UInt8), s.size - pos = d → 1 ≤ pos → bl s = 40 :: (xs.flatten ++ tail) → pos = 1 + xs.flatten.length → (∀ x ∈ xs, T A (B - 1) E x) →
    ∃ n : Nat, Ev (fun k => spec_Complete.l0 k s A B E (pos : Int)) (n : Int) ∧
      (∀ ys rest, (∀ y ∈ ys, T A (B - 1) E y) → xs ++ ys ≠ [] → tail = ys.flatten ++ 41 :: rest → n = pos + ys.flatten.length + 1) ∧ (0 < n → n ≤ s.size ∧ T A B E ((bl s).take n)) := by
  induction d using Nat.strongRecOn with
  | _ d ihd =>
  intro pos xs tail hd hp hb hpos hxs
  have htail : (bl s).drop pos = tail := by
    rw [hb, hpos, Nat.add_comm, List.drop_succ_cons]; simp
  have hlen : s.size = pos + tail.length := by rw [← bl_len, hb, hpos]; simp; omega
  have hnil : xs = [] ↔ pos = 1 := by
    constructor
    · intro h; rw [h] at hpos; simpa using hpos
    · intro h
      cases xs with
      | nil => rfl
      | cons x r =>
        have := (hxs x List.mem_cons_self).len
        simp at hpos; omega
  cases tail with
  | nil =>
    simp only [List.length_nil] at hlen
    refine ⟨0, Ev.step (f := fun k => spec_Complete.j5 k s A B E (pos : Int) false) (fun k => ?_) (Ev.step (f := fun _ => some 0) (fun k => ?_) (Ev.now _)), ?_, fun q => absurd q (by omega)⟩
    · simp only [spec_Complete.l0]; rw [if_neg (by omega)]
    · simp only [spec_Complete.j5]
      rw [if_neg (by decide)]
      by_cases h1 : (pos : Int) > 1
      · rw [if_pos h1, if_neg (by omega)]
      · rw [if_neg h1]
    · intro ys rest _ _ e
      have := congrArg List.length e
      simp at this
  | cons c r =>
    simp only [List.length_cons] at hlen
    have hc : bt s (pos : Int) = (c.toNat : Int) := bt_drop htail
    have l0e : ∀ k, spec_Complete.l0 (k + 1) s A B E (pos : Int) = spec_Complete.j5 k s A B E (pos : Int) ((c.toNat : Int) != 41) := by
      intro k; simp only [spec_Complete.l0]; rw [if_pos (by omega), if_pos (by omega), hc]
    by_cases h41 : c = 41
    · subst h41
      by_cases h1 : pos = 1
      · refine ⟨0, Ev.step l0e (Ev.step (f := fun _ => some 0) (fun k => ?_) (Ev.now _)), ?_, fun q => absurd q (by omega)⟩
        · simp only [spec_Complete.j5]
          rw [if_neg (by decide), if_neg (by omega)]
        · intro ys rest hys hne e
          rw [hnil.mpr h1, List.nil_append] at hne
          cases ys with
          | nil => exact absurd rfl hne
          | cons y ys =>
            obtain ⟨c', r', rfl, _, h, _⟩ := (hys y List.mem_cons_self).head
            simp at e
            exact absurd e.1.symm h
      · refine ⟨pos + 1, Ev.step l0e (Ev.step (f := fun _ => some ((pos + 1 : Nat) : Int)) (fun k => ?_) (Ev.now _)), ?_, ?_⟩
        · simp only [spec_Complete.j5]
          rw [if_neg (by decide), if_pos (by omega), if_pos (by omega), w64 (by omega) (by omega)]; rfl
        · intro ys rest hys hne e
          cases ys with
          | nil => simp
          | cons y ys =>
            obtain ⟨c', r', rfl, _, h, _⟩ := (hys y List.mem_cons_self).head
            simp at e
            exact absurd e.1.symm h
        · intro _
          refine ⟨by omega, ?_⟩
          have e : (bl s).take (pos + 1) = 40 :: (xs.flatten ++ [41]) := by
            rw [hb, hpos, List.take_succ_cons, Nat.add_comm 1, List.take_append]
            simp [List.take_of_length_le]
          rw [e]
          exact T.str hA hB hE (fun q => h1 (hnil.mp q)) hxs
    · have hb41 : ((c.toNat : Int) != 41) = true := by
        rw [bne_iff_ne]; intro q; exact h41 ((num_eq 41).mp q)
      obtain ⟨t, ht, ht1, ht2⟩ := ih (s.extract pos s.size) (by rw [size_drop]; omega) (by rw [size_drop]; omega) A (B - 1) E (by omega) hA2 (by omega) (by omega) (by omega) hE2
      rw [bl_drop, htail] at ht1 ht2
      rw [size_drop] at ht2
      have wB : wrap64 (B - 1) = B - 1 := w64 (by omega) (by omega)
      have j5e : ∀ k, spec_Complete.j5 (k + 1) s A B E (pos : Int) ((c.toNat : Int) != 41) = (spec_Complete.f k (s.extract pos s.size) A (B - 1) E).bind fun t112 => (if t112 = 0 then (some 0) else (spec_Complete.l0 k s A B E (wrap64 ((pos : Int) + t112)))) := by
        intro k
        simp only [spec_Complete.j5]
        rw [if_pos hb41, if_pos (by omega), if_pos (by omega), wB, Int.toNat_natCast]
      by_cases hz : t = 0
      · subst hz
        refine ⟨0, Ev.step l0e (Ev.step j5e (Ev.bind ht (ev_ite_pos rfl (fun _ => rfl) (Ev.now _)))), ?_, fun q => absurd q (by omega)⟩
        intro ys rest hys hne e
        cases ys with
        | nil => simp at e; exact absurd e.1 h41
        | cons y ys =>
          have hy := hys y List.mem_cons_self
          have := ht1 y (ys.flatten ++ 41 :: rest) hy (by rw [e]; simp)
          have := hy.len
          omega
      · obtain ⟨ht3, ht4⟩ := ht2 (by omega)
        have hsz : t ≤ r.length + 1 := by omega
        have hx : (c :: r) = (c :: r).take t ++ (c :: r).drop t := (List.take_append_drop t _).symm
        obtain ⟨n, hn, hn1, hn2⟩ := ihd (s.size - (pos + t)) (by omega) (pos + t) (xs ++ [(c :: r).take t]) ((c :: r).drop t) rfl (by omega)
          (by rw [hb]; simp only [List.flatten_append, List.flatten_cons, List.flatten_nil, List.append_nil, List.append_assoc]; rw [← hx])
          (by simp only [List.flatten_append, List.flatten_cons, List.flatten_nil, List.append_nil, List.length_append, List.length_take, List.length_cons]; omega)
          (by intro x hx; rcases List.mem_append.mp hx with h | h
              · exact hxs x h
              · rw [List.mem_singleton.mp h]; exact ht4)
        have e2 : wrap64 ((pos : Int) + (t : Int)) = ((pos + t : Nat) : Int) := w64 (by omega) (by omega)
        refine ⟨n, Ev.step l0e (Ev.step j5e (Ev.bind ht (ev_ite_neg (by omega) (fun _ => rfl) ?_))), ?_, hn2⟩
        · rw [e2]; exact hn
        · intro ys rest hys hne e
          cases ys with
          | nil => simp at e; exact absurd e.1 h41
          | cons y ys =>
            have hy := hys y List.mem_cons_self
            have ey := ht1 y (ys.flatten ++ 41 :: rest) hy (by rw [e]; simp)
            have e3 : (c :: r).drop t = ys.flatten ++ 41 :: rest := by
              rw [e, ey]; simp
            have := hn1 ys rest (fun z hz => hys z (List.mem_cons_of_mem _ hz)) (by simp) e3
            rw [this]; simp; omega
end

/-- A fact that arithmetic does not see. -/
structure Hid (p : Prop) : Prop where
  mk' ::
  out' : p
set_option maxHeartbeats 1000000 in
theorem complete (N : Nat) : Claim N := by
  induction N with
  | zero =>
    intro s h0 hs A B E a1 a2 b1 b2 e1 e2
    have hz : s.size = 0 := by omega
    refine ⟨0, Ev.step (fun k => f_step k s A B E) ?_, tells_none ?_⟩
    · rw [decide_eq_true (.inl hz)]
      exact Ev.step (f := fun _ => some 0) (fun k => j0_bad k s A B E) (Ev.now _)
    · intro x rest t e
      have := t.len
      have h2 := congrArg List.length e
      rw [bl_len, List.length_append] at h2
      omega
  | succ N ih =>
    intro s h0 hs A B E a1 a2 b1 b2 e1 e2
    by_cases bad : s.size = 0 ∨ A < 0 ∨ B < 0 ∨ E < 0
    · refine ⟨0, Ev.step (fun k => f_step k s A B E) ?_, tells_none ?_⟩
      · rw [decide_eq_true bad]
        exact Ev.step (f := fun _ => some 0) (fun k => j0_bad k s A B E) (Ev.now _)
      · intro x rest t e
        have h1 := t.len
        have h2 := congrArg List.length e
        have h3 := t.pos
        rw [bl_len, List.length_append] at h2
        omega
    have hA : 0 ≤ A := by omega
    have hB : 0 ≤ B := by omega
    have hE : 0 ≤ E := by omega
    obtain ⟨c, r, hb⟩ : ∃ c r, bl s = c :: r := by
      cases h : bl s with
      | nil => have : s.size = 0 := by rw [← bl_len, h]; rfl
               omega
      | cons c r => exact ⟨c, r, rfl⟩
    have hlen : s.size = r.length + 1 := by rw [← bl_len, hb]; simp
    have up : ∀ n, Ev (fun k => spec_Complete.j1 k s A B E (oneC c)) n → Ev (fun k => spec_Complete.f k s A B E) n := by
      intro n h
      refine Ev.step (fun k => f_step k s A B E) ?_
      rw [decide_eq_false bad]
      exact Ev.step (fun k => j0_step k hb A B E) h
    have wA : Hid (wrap64 (A - 1) = A - 1) := Hid.mk' (w64 (by omega) (by omega))
    have wE : Hid (wrap64 (E - 1) = E - 1) := Hid.mk' (w64 (by omega) (by omega))
    cases ho : oneC c with
    | true =>
      rw [ho] at up
      obtain ⟨_, n97, n40, _, _, _⟩ := one_ascii c ho
      refine ⟨1, up _ (Ev.step (f := fun _ => some 1) (fun k => j1_one k s A B E) (Ev.now _)), ?_, ?_⟩
      · intro x rest t e
        rw [hb] at e
        obtain ⟨_, _, _, h⟩ := t.cases
        rcases h with ⟨c', hc, rfl⟩ | ⟨x, hx, rfl⟩ | ⟨c', x, hc, hx, rfl⟩ | ⟨xs, hn, hx, rfl⟩
        · rfl
        · simp at e; exact absurd e.1 n97
        · simp at e; exact absurd e.1 n97
        · simp at e; exact absurd e.1 n40
      · intro _
        refine ⟨by omega, ?_⟩
        rw [hb]
        exact T.one hA hB hE ho
    | false =>
      rw [ho] at up
      by_cases hd : c = 97 ∧ ∃ q, r = 123 :: q
      · obtain ⟨rfl, q, rfl⟩ := hd
        simp only [List.length_cons] at hlen
        have up2 : ∀ n, Ev (fun k => spec_Complete.j2 k s A B E true) n → Ev (fun k => spec_Complete.f k s A B E) n :=
          fun n h => up n (Ev.step (fun k => j1_dict k hb A B E) h)
        have only : ∀ x rest, T A B E x → bl s = x ++ rest → ∃ c' y, basicC c' = true ∧ T (A - 1) B (E - 1) y ∧ x = 97 :: 123 :: c' :: (y ++ [125]) ∧ q = c' :: (y ++ 125 :: rest) := by
          intro x rest t e
          rw [hb] at e
          obtain ⟨_, _, _, h⟩ := t.cases
          rcases h with ⟨c', hc, rfl⟩ | ⟨y, hy, rfl⟩ | ⟨c', y, hc, hy, rfl⟩ | ⟨xs, hn, hx, rfl⟩
          · simp at e; rw [← e.1] at hc; exact absurd hc (by decide)
          · obtain ⟨c2, r2, rfl, h123, _⟩ := hy.head
            simp at e; exact absurd e.1.symm h123
          · exact ⟨c', y, hc, hy, rfl, by simpa using e⟩
          · simp at e
        by_cases h4 : s.size < 4
        · refine ⟨0, up2 _ (Ev.step (fun k => j2_short k h4 A B E) (Ev.step (f := fun _ => some 0) (fun k => j3_bad k s A B E) (Ev.now _))), tells_none ?_⟩
          intro x rest t e
          obtain ⟨c', y, _, hy, _, rfl⟩ := only x rest t e
          have := hy.len
          simp at hlen; omega
        cases q with
        | nil => simp at hlen; omega
        | cons c2 q2 =>
          simp only [List.length_cons] at hlen
          have hdr : (bl s).drop 2 = c2 :: q2 := by rw [hb]; rfl
          have hdr3 : (bl s).drop 3 = q2 := by rw [hb]; rfl
          cases hbc : basicC c2 with
          | false =>
            refine ⟨0, up2 _ (Ev.step (fun k => j2_long k h4 hdr A B E) ?_), tells_none ?_⟩
            · rw [hbc]; exact Ev.step (f := fun _ => some 0) (fun k => j3_bad k s A B E) (Ev.now _)
            · intro x rest t e
              obtain ⟨c', y, hc', _, _, e2⟩ := only x rest t e
              injection e2 with e3 _
              rw [e3, hc'] at hbc; exact absurd hbc (by decide)
          | true =>
            obtain ⟨t, ht, ht1, ht2⟩ := ih (s.extract 3 s.size) (by rw [size_drop]; omega) (by rw [size_drop]; omega) (A - 1) B (E - 1) (by omega) (by omega) (by omega) b2 (by omega) (by omega)
            rw [bl_drop, hdr3] at ht1 ht2
            rw [size_drop] at ht2
            have up3 : ∀ n, Ev (fun k => (spec_Complete.f k (s.extract 3 s.size) (A - 1) B (E - 1)).bind fun t110 => (if t110 = 0 then (some 0) else (if (s.size : Int) < (wrap64 (t110 + 4)) then (some 0) else (if 0 ≤ (wrap64 (t110 + 3)) then (if (wrap64 (t110 + 3)) < (s.size : Int) then (if (bt s (wrap64 (t110 + 3))) = 125 then (some (wrap64 (t110 + 4))) else (some 0)) else (none)) else (none))))) n → Ev (fun k => spec_Complete.f k s A B E) n := by
              intro n h
              refine up2 n (Ev.step (fun k => j2_long k h4 hdr A B E) ?_)
              rw [hbc]
              refine Ev.step (fun k => ?_) h
              simp only [spec_Complete.j3]
              rw [Bool.not_true, if_neg (by decide), if_pos (by omega), wA.out', wE.out']
            by_cases hz : t = 0
            · subst hz
              refine ⟨0, up3 _ (Ev.bind ht (ev_ite_pos rfl (fun _ => rfl) (Ev.now _))), tells_none ?_⟩
              intro x rest t e
              obtain ⟨c', y, _, hy, _, e2⟩ := only x rest t e
              injection e2 with e3 e4
              have := ht1 y (125 :: rest) hy (by rw [e4])
              have := hy.len
              omega
            · obtain ⟨ht3, ht4⟩ := ht2 (by omega)
              have htb : t ≤ 1000000000 := by omega
              by_cases hsh : s.size < t + 4
              · refine ⟨0, up3 _ (Ev.bind ht (ev_ite_neg (by omega) (fun _ => rfl) (ev_ite_pos (by rw [wp4 t htb]; omega) (fun _ => rfl) (Ev.now _)))), tells_none ?_⟩
                intro x rest tt e
                obtain ⟨c', y, _, hy, _, e2⟩ := only x rest tt e
                injection e2 with e3 e4
                have h5 := ht1 y (125 :: rest) hy (by rw [e4])
                have h6 := congrArg List.length e4
                simp at h6; omega
              · obtain ⟨c5, r5, h5⟩ : ∃ c5 r5, q2.drop t = c5 :: r5 := by
                  cases h : q2.drop t with
                  | nil => have := congrArg List.length h; rw [List.length_drop] at this; simp at this; omega
                  | cons c5 r5 => exact ⟨c5, r5, rfl⟩
                have hdt : (bl s).drop (t + 3) = c5 :: r5 := by rw [hb]; simpa using h5
                have hbt : bt s (wrap64 ((t : Int) + 3)) = (c5.toNat : Int) := by rw [wp3 t htb]; exact bt_drop hdt
                by_cases h125 : c5 = 125
                · refine ⟨t + 4, up3 _ (Ev.bind ht (ev_ite_neg (by omega) (fun _ => rfl) (ev_ite_neg (by rw [wp4 t htb]; omega) (fun _ => rfl) (ev_ite_pos (by rw [wp3 t htb]; omega) (fun _ => rfl) (ev_ite_pos (by rw [wp3 t htb]; omega) (fun _ => rfl) (ev_ite_pos (by rw [hbt, h125]; rfl) (fun _ => rfl) (by rw [wp4 t htb]; exact Ev.now _))))))), ?_, ?_⟩
                  · intro x rest tt e
                    obtain ⟨c', y, _, hy, rfl, e2⟩ := only x rest tt e
                    injection e2 with e3 e4
                    have h6 := ht1 y (125 :: rest) hy (by rw [e4])
                    simp; omega
                  · intro _
                    refine ⟨by omega, ?_⟩
                    have e : (bl s).take (t + 4) = 97 :: 123 :: c2 :: (q2.take t ++ [125]) := by
                      rw [hb]
                      simp only [List.take_succ_cons]
                      have h7 : q2.take (t + 1) = q2.take t ++ [125] := by
                        rw [List.take_add, h5, h125]; rfl
                      rw [h7]
                    rw [e]
                    exact T.dict hA hB hE hbc ht4
                · refine ⟨0, up3 _ (Ev.bind ht (ev_ite_neg (by omega) (fun _ => rfl) (ev_ite_neg (by rw [wp4 t htb]; omega) (fun _ => rfl) (ev_ite_pos (by rw [wp3 t htb]; omega) (fun _ => rfl) (ev_ite_pos (by rw [wp3 t htb]; omega) (fun _ => rfl) (ev_ite_neg (by rw [hbt]; exact fun z => h125 ((num_eq 125).mp z)) (fun _ => rfl) (Ev.now _))))))), tells_none ?_⟩
                  intro x rest tt e
                  obtain ⟨c', y, _, hy, _, e2⟩ := only x rest tt e
                  injection e2 with e3 e4
                  have h6 := ht1 y (125 :: rest) hy (by rw [e4])
                  rw [e4, h6] at h5
                  simp at h5
                  exact h125 h5.1.symm
      · have up2 : ∀ n, Ev (fun k => spec_Complete.j2 k s A B E false) n → Ev (fun k => spec_Complete.f k s A B E) n :=
          fun n h => up n (Ev.step (fun k => j1_other k hb hd A B E) h)
        by_cases h97 : c = 97
        · subst h97
          have hdr1 : (bl s).drop 1 = r := by rw [hb]; rfl
          obtain ⟨t, ht, ht1, ht2⟩ := ih (s.extract 1 s.size) (by rw [size_drop]; omega) (by rw [size_drop]; omega) (A - 1) B E (by omega) (by omega) (by omega) b2 (by omega) e2
          rw [bl_drop, hdr1] at ht1 ht2
          rw [size_drop] at ht2
          have up3 : ∀ n, Ev (fun k => (spec_Complete.f k (s.extract 1 s.size) (A - 1) B E).bind fun t111 => (if t111 > 0 then (some (wrap64 (t111 + 1))) else (some 0))) n → Ev (fun k => spec_Complete.f k s A B E) n := by
            intro n h
            refine up2 n (Ev.step (fun k => ?_) h)
            simp only [spec_Complete.j2]
            rw [if_neg (by decide), if_pos (by omega), bt_cons hb, if_pos (by rfl), if_pos (by omega), wA.out']
          have only : ∀ x rest, T A B E x → bl s = x ++ rest → ∃ y, T (A - 1) B E y ∧ x = 97 :: y ∧ r = y ++ rest := by
            intro x rest t e
            rw [hb] at e
            obtain ⟨_, _, _, h⟩ := t.cases
            rcases h with ⟨c', hc, rfl⟩ | ⟨y, hy, rfl⟩ | ⟨c', y, hc, hy, rfl⟩ | ⟨xs, hn, hx, rfl⟩
            · simp at e; rw [← e.1] at hc; exact absurd hc (by decide)
            · exact ⟨y, hy, rfl, by simpa using e⟩
            · exact absurd ⟨rfl, _, (List.cons.inj e).2⟩ hd
            · simp at e
          by_cases hz : 0 < t
          · obtain ⟨ht3, ht4⟩ := ht2 hz
            refine ⟨t + 1, up3 _ (Ev.bind ht (ev_ite_pos (by omega) (fun _ => rfl) (by rw [w64 (by omega) (by omega)]; exact Ev.now _))), ?_, ?_⟩
            · intro x rest tt e
              obtain ⟨y, hy, rfl, e2⟩ := only x rest tt e
              have := ht1 y rest hy e2
              simp; omega
            · intro _
              refine ⟨by omega, ?_⟩
              rw [hb, List.take_succ_cons]
              exact T.arr hA hB hE ht4
          · refine ⟨0, up3 _ (Ev.bind ht (ev_ite_neg (by omega) (fun _ => rfl) (Ev.now _))), tells_none ?_⟩
            intro x rest tt e
            obtain ⟨y, hy, rfl, e2⟩ := only x rest tt e
            have := ht1 y rest hy e2
            have := hy.len
            omega
        · by_cases h40 : c = 40
          · subst h40
            obtain ⟨n, hn, hn1, hn2⟩ := loop N ih s h0 hs A B E hA a2 hB b2 hE e2 (s.size - 1) 1 [] r rfl (by omega) (by rw [hb]; rfl) rfl (fun x hx => by cases hx)
            refine ⟨n, up2 _ (Ev.step (fun k => ?_) hn), ?_, hn2⟩
            · simp only [spec_Complete.j2]
              rw [if_neg (by decide), if_pos (by omega), bt_cons hb, if_neg (by decide), if_pos (by rfl)]; rfl
            · intro x rest t e
              rw [hb] at e
              obtain ⟨_, _, _, h⟩ := t.cases
              rcases h with ⟨c', hc, rfl⟩ | ⟨y, hy, rfl⟩ | ⟨c', y, hc, hy, rfl⟩ | ⟨xs, hne, hx, rfl⟩
              · simp at e; rw [← e.1] at hc; exact absurd hc (by decide)
              · simp at e
              · simp at e
              · have := hn1 xs rest hx (by simpa using hne) (by simpa using e)
                rw [this]; simp; omega
          · refine ⟨0, up2 _ (Ev.step (f := fun _ => some 0) (fun k => ?_) (Ev.now _)), tells_none ?_⟩
            · simp only [spec_Complete.j2]
              rw [if_neg (by decide), if_pos (by omega), bt_cons hb, if_neg (show ¬ (c.toNat : Int) = 97 from fun z => h97 ((num_eq 97).mp z)), if_neg (show ¬ (c.toNat : Int) = 40 from fun z => h40 ((num_eq 40).mp z))]
            · intro x rest t e
              rw [hb] at e
              obtain ⟨_, _, _, h⟩ := t.cases
              rcases h with ⟨c', hc, rfl⟩ | ⟨y, hy, rfl⟩ | ⟨c', y, hc, hy, rfl⟩ | ⟨xs, hne, hx, rfl⟩
              · simp at e; rw [← e.1, ho] at hc; exact absurd hc (by decide)
              · simp at e; exact h97 e.1
              · simp at e; exact h97 e.1
              · simp at e; exact h40 e.1

end Go.Proofs.Ytfipimoemhbnlaa.MFnSgReplaces
