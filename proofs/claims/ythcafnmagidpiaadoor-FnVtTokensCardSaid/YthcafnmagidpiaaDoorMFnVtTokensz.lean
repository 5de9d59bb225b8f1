-- Texts of this session, several in one.
import Derived.Test.YthcafnmagidpiaaDoorMFnVtTokensx17
import Derived.Test.YthcafnmagidpiaaDoorHlp
import Derived.Test.YthcafnmagidpiaaDoorMFnVtTokensx1
import Derived.Test.YthcafnmagidpiaaDoorMFnVtTokensp
import Derived.Test.YthcafnmagidpiaaDoorMFnVtTokensx18
/- Numbers: where the specification knows a number, and neither a digit nor a point nor a sign is behind it, the lexer takes the same bytes. -/
namespace Go.Proofs.YthcafnmagidpiaaDoor.MFnVtTokensn
open Go Go.RowKit Go.Proofs.YthcafnmagidpiaaDoor.MFnVtTokens Go.Proofs.YthcafnmagidpiaaDoorW.PrintWords Go.Proofs.YthcafnmagidpiaaDoorW.PrintLast Go.Proofs.YthcafnmagidpiaaDoor.Hlp
set_option linter.unusedVariables false

theorem at_gen {m : Nat} {v : ByteArray} (hf : ∀ n : Fin 256, (n.val == m) = v.data.toList.contains (UInt8.ofNat n.val)) (l : List UInt8) : at1 m l = hd v l := by
  cases l with
  | nil => rfl
  | cons c r =>
    have h := hf ⟨c.toNat, c.toNat_lt⟩
    simp only [UInt8.ofNat_toNat] at h
    exact h
theorem at_zr (l : List UInt8) : at1 48 l = hd ZR l := at_gen (by decide +kernel) l
theorem at_xx (l : List UInt8) : at1 120 l = hd XX l := at_gen (by decide +kernel) l
theorem at_dot (l : List UInt8) : at1 46 l = hd DOT l := at_gen (by decide +kernel) l
theorem low_fin : ∀ n : Fin 256, ((n.val ||| 32) == 101) = EE.data.toList.contains (UInt8.ofNat n.val) := by decide +kernel
theorem at_ee (l : List UInt8) : atL 101 l = hd EE l := by
  cases l with
  | nil => rfl
  | cons c r =>
    have h := low_fin ⟨c.toNat, c.toNat_lt⟩
    simp only [UInt8.ofNat_toNat] at h
    exact h
theorem lowx_fin : ∀ n : Fin 256, ((n.val ||| 32) == 120) = false → XX.data.toList.contains (UInt8.ofNat n.val) = false := by decide +kernel
theorem at_lx {l : List UInt8} (h : atL 120 l = false) : hd XX l = false := by
  cases l with
  | nil => rfl
  | cons c r =>
    have h2 := lowx_fin ⟨c.toNat, c.toNat_lt⟩ h
    simp only [UInt8.ofNat_toNat] at h2
    exact h2
/-- What does not stand behind a number of which something is said. -/
def Far (l : List UInt8) : Prop := ∀ c r, l = c :: r → ¬ (48 ≤ c.toNat ∧ c.toNat ≤ 57) ∧ c.toNat ≠ 46 ∧ c.toNat ≠ 43 ∧ c.toNat ≠ 45
theorem Far.dot {l : List UInt8} (h : Far l) : hd DOT l = false := by
  rw [← at_dot]
  cases l with
  | nil => rfl
  | cons c r => exact beq_eq_false_iff_ne.2 (h c r rfl).2.1
theorem x16_fin : ∀ n : Fin 256, EE.data.toList.contains (UInt8.ofNat n.val) = true → D16.data.toList.contains (UInt8.ofNat n.val) = true := by decide +kernel
theorem ee_hex {l : List UInt8} (h : hd D16 l = false) : hd EE l = false := by
  cases l with
  | nil => rfl
  | cons c r =>
    have h2 := x16_fin ⟨c.toNat, c.toNat_lt⟩
    simp only [UInt8.ofNat_toNat] at h2
    cases h3 : hd EE (c :: r) with
    | false => rfl
    | true => have := h2 h3; rw [show hd D16 (c :: r) = D16.data.toList.contains c from rfl] at h; rw [h] at this; cases this
/-- Behind a span the set's bytes have ended. -/
theorem span_end (v : ByteArray) : ∀ l : List UInt8, hd v (l.drop (span v l)) = false
  | [] => rfl
  | c :: r => by
    by_cases h : v.data.toList.contains c = true
    · rw [show span v (c :: r) = span v r + 1 by simp only [span]; rw [if_pos h], List.drop_succ_cons]
      exact span_end v r
    · rw [show span v (c :: r) = 0 by simp only [span]; rw [if_neg h]]
      show v.data.toList.contains c = false
      simpa using h
theorem expT_no {l : List UInt8} (h : hd EE l = false) : expT l = 0 := by unfold expT; rw [if_neg (by rw [h]; simp)]
theorem dotT_no {v : ByteArray} {l : List UInt8} (h : hd DOT l = false) : dotT v l = expT l := by unfold dotT; rw [if_neg (by rw [h]; simp)]
theorem d8_dot_fin : ∀ n : Fin 256, DOT.data.toList.contains (UInt8.ofNat n.val) = true → D8.data.toList.contains (UInt8.ofNat n.val) = false ∧ XX.data.toList.contains (UInt8.ofNat n.val) = false := by decide +kernel
theorem d8_dot {l : List UInt8} (h : hd DOT l = true) : hd D8 l = false ∧ hd XX l = false := by
  cases l with
  | nil => cases h
  | cons c r =>
    have h2 := d8_dot_fin ⟨c.toNat, c.toNat_lt⟩
    simp only [UInt8.ofNat_toNat] at h2
    exact h2 h
theorem dr (l : List UInt8) (a b : Nat) : (l.drop a).drop b = l.drop (a + b) := List.drop_drop
set_option maxHeartbeats 1000000 in
theorem num_agree {l : List UInt8} {n : Nat} (h : ntF l = (((n : Nat) : Int), true)) (hf : Far (l.drop n)) : numL l = n := by
  unfold ntF at h
  rw [at_zr] at h
  unfold numL
  by_cases hz : hd ZR (l.drop (opt PM l)) = true
  · rw [if_pos hz] at h ⊢
    rw [at_xx] at h
    by_cases hx : hd XX (l.drop (opt PM l + 1)) = true
    · rw [if_pos hx] at h ⊢
      simp only [ntX, Prod.mk.injEq] at h
      have hn : opt PM l + 2 + span D16 (l.drop (opt PM l + 2)) = n := by exact_mod_cast h.1
      rw [← hn] at hf
      have hd1 := hf.dot
      have he := ee_hex (span_end D16 (l.drop (opt PM l + 2)))
      rw [dr] at he
      unfold numT
      rw [dr, dotT_no hd1, expT_no he]
      omega
    · rw [if_neg hx] at h ⊢
      rw [at_dot] at h
      by_cases hd0 : hd DOT (l.drop (opt PM l + 1)) = true
      · rw [if_pos hd0] at h
        simp only [ntD, Prod.mk.injEq, Bool.and_eq_true, Bool.not_eq_true'] at h
        have hn : opt PM l + 2 + span D8 (l.drop (opt PM l + 2)) = n := by exact_mod_cast h.1
        have he := h.2.2
        rw [at_ee] at he
        have h8 := (d8_dot hd0).1
        unfold numT
        rw [span_f h8, Nat.add_zero]
        show opt PM l + 1 + (0 + dotT D8 ((l.drop (opt PM l + 1)).drop 0)) = n
        rw [List.drop_zero]
        unfold dotT
        rw [if_pos hd0, dr, dr, show opt PM l + 1 + 1 = opt PM l + 2 from rfl, show opt PM l + 1 + (1 + span D8 (l.drop (opt PM l + 2))) = opt PM l + 2 + span D8 (l.drop (opt PM l + 2)) by omega, expT_no he]
        omega
      · rw [if_neg hd0] at h
        simp only [ntO, Prod.mk.injEq, Bool.and_eq_true, Bool.not_eq_true'] at h
        have hn : opt PM l + 1 + span D8 (l.drop (opt PM l + 1)) = n := by exact_mod_cast h.1
        have he := h.2.2.1
        rw [at_ee] at he
        rw [← hn] at hf
        have hd1 := hf.dot
        unfold numT
        rw [dr, dotT_no hd1, expT_no he]
        omega
  · rw [if_neg hz] at h ⊢
    by_cases hm : span D10 (l.drop (opt PM l)) = 0
    · rw [if_pos hm] at h
      simp at h
    · rw [if_neg hm, at_dot] at h
      have tail : ∀ q : Nat, ntE l q = (((n : Nat) : Int), true) → q + expT (l.drop q) = n := by
        intro q hq
        unfold ntE at hq
        rw [at_ee] at hq
        by_cases he : hd EE (l.drop q) = true
        · rw [if_pos he] at hq
          by_cases hs : span D10 (l.drop (q + 1 + opt PM (l.drop (q + 1)))) = 0
          · rw [if_pos hs] at hq
            simp at hq
          · rw [if_neg hs] at hq
            simp only [Prod.mk.injEq, and_true] at hq
            have hn : q + 1 + opt PM (l.drop (q + 1)) + span D10 (l.drop (q + 1 + opt PM (l.drop (q + 1)))) = n := by exact_mod_cast hq
            unfold expT
            rw [if_pos he, dr, dr, show q + (1 + opt PM (l.drop (q + 1))) = q + 1 + opt PM (l.drop (q + 1)) by omega]
            omega
        · rw [if_neg he] at hq
          simp only [Prod.mk.injEq, and_true] at hq
          have hn : q = n := by exact_mod_cast hq
          rw [expT_no (by simpa using he)]
          omega
      unfold numT
      rw [dr]
      unfold dotT
      by_cases hd0 : hd DOT (l.drop (opt PM l + span D10 (l.drop (opt PM l)))) = true
      · rw [if_pos hd0] at h ⊢
        have := tail _ h
        rw [dr, dr, show opt PM l + span D10 (l.drop (opt PM l)) + (1 + span D10 (l.drop (opt PM l + span D10 (l.drop (opt PM l)) + 1))) = opt PM l + span D10 (l.drop (opt PM l)) + 1 + span D10 (l.drop (opt PM l + span D10 (l.drop (opt PM l)) + 1)) by omega]
        omega
      · rw [if_neg hd0] at h ⊢
        have := tail _ h
        omega
end Go.Proofs.YthcafnmagidpiaaDoor.MFnVtTokensn

/- UTF8 and among come to an end with some answer. -/
namespace Go.Proofs.YthcafnmagidpiaaDoor.MFnVtTokensu
open Go Go.RowKit Go.Proofs.YthcafnmagidpiaaDoor.MFnVtTokens Go.Proofs.YthcafnmagidpiaaDoorW.PrintWords Go.Proofs.YthcafnmagidpiaaDoorW.PrintLast Go.Proofs.YthcafnmagidpiaaDoor.Hlp
set_option linter.unusedVariables false

theorem bt_rng (s : ByteArray) (i : Int) : 0 ≤ bt s i ∧ bt s i ≤ 255 := by
  unfold bt
  split
  · have := (s[i.toNat]'(by assumption)).toNat_lt; omega
  · omega
/-- A character at a place is read: with its size, at least 1 where it is one. -/
def ChOk (s : ByteArray) (i : Nat) (r : Int × Int × Bool) : Prop := r.2.2 = true → 1 ≤ r.2.1 ∧ r.2.1 ≤ (s.size : Int) - (i : Int)
theorem ch_loop (s : ByteArray) (i m : Nat) (least : Int) (hs : s.size ≤ 4096) (hm : i + m < s.size) (hm3 : m ≤ 3) : ∀ (d j : Nat) (x : Int), j + d = m + 1 → 1 ≤ j → ∃ r, Ev (fun k => spec_Character.l0 k s (i : Int) x (m : Int) least (j : Int)) r ∧ ChOk s i r
  | 0, j, x, h, hj => by
    have e1 : ¬ ((j : Int) ≤ (m : Int)) := by omega
    by_cases h1 : x < least
    · exact ⟨(65533, 1, false), Ev.step (f := fun _ => some (65533, 1, false)) (fun k => by simp only [spec_Character.l0]; rw [if_neg e1, if_pos h1]) (Ev.now _), fun h => by cases h⟩
    · by_cases h2 : x > 1114111
      · exact ⟨(65533, 1, false), Ev.step (f := fun _ => some (65533, 1, false)) (fun k => by simp only [spec_Character.l0]; rw [if_neg e1, if_neg h1, if_pos h2]) (Ev.now _), fun h => by cases h⟩
      · obtain ⟨a, ha⟩ : ∃ a, spec_high.f x = some a := by unfold spec_high.f; split <;> exact ⟨_, rfl⟩
        obtain ⟨b, hb⟩ : ∃ b, spec_low.f x = some b := by unfold spec_low.f; split <;> exact ⟨_, rfl⟩
        cases a with
        | true => exact ⟨(65533, 1, false), Ev.step (f := fun _ => some (65533, 1, false)) (fun k => by simp only [spec_Character.l0]; rw [if_neg e1, if_neg h1, if_neg h2, ha, Option.bind_some, if_pos rfl]) (Ev.now _), fun h => by cases h⟩
        | false => cases b with
          | true => exact ⟨(65533, 1, false), Ev.step (f := fun _ => some (65533, 1, false)) (fun k => by simp only [spec_Character.l0]; rw [if_neg e1, if_neg h1, if_neg h2, ha, Option.bind_some, if_neg (by simp), hb, Option.bind_some, if_pos rfl]) (Ev.now _), fun h => by cases h⟩
          | false =>
            refine ⟨(x, wrap64 ((m : Int) + 1), true), Ev.step (f := fun _ => some (x, wrap64 ((m : Int) + 1), true)) (fun k => by simp only [spec_Character.l0]; rw [if_neg e1, if_neg h1, if_neg h2, ha, Option.bind_some, if_neg (by simp), hb, Option.bind_some, if_neg (by simp)]) (Ev.now _), fun _ => ?_⟩
            show 1 ≤ wrap64 ((m : Int) + 1) ∧ wrap64 ((m : Int) + 1) ≤ _
            rw [w64 (by omega) (by omega)]
            omega
  | d + 1, j, x, h, hj => by
    have e1 : (j : Int) ≤ (m : Int) := by omega
    have ew : wrap64 ((i : Int) + (j : Int)) = ((i + j : Nat) : Int) := by rw [w64 (by omega) (by omega)]; omega
    have e2 : (0 : Int) ≤ ((i + j : Nat) : Int) := by omega
    have e3 : ((i + j : Nat) : Int) < (s.size : Int) := by omega
    by_cases h1 : wrap64 (bt s ((i + j : Nat) : Int)) < 128
    · exact ⟨(65533, 1, false), Ev.step (f := fun _ => some (65533, 1, false)) (fun k => by simp only [spec_Character.l0]; rw [if_pos e1, ew, if_pos e2, if_pos e3, if_pos h1]) (Ev.now _), fun h => by cases h⟩
    · by_cases h2 : wrap64 (bt s ((i + j : Nat) : Int)) > 191
      · exact ⟨(65533, 1, false), Ev.step (f := fun _ => some (65533, 1, false)) (fun k => by simp only [spec_Character.l0]; rw [if_pos e1, ew, if_pos e2, if_pos e3, if_neg h1, if_pos h2]) (Ev.now _), fun h => by cases h⟩
      · obtain ⟨r, hr, ho⟩ := ch_loop s i m least hs hm hm3 d (j + 1) (wrap64 ((wrap64 ((wrap64 (x * 64)) + (wrap64 (bt s ((i + j : Nat) : Int))))) - 128)) (by omega) (by omega)
        refine ⟨r, Ev.step (fun k => ?_) hr, ho⟩
        simp only [spec_Character.l0]
        rw [if_pos e1, ew, if_pos e2, if_pos e3, if_neg h1, if_neg h2, show wrap64 ((j : Int) + 1) = ((j + 1 : Nat) : Int) by rw [w64 (by omega) (by omega)]; omega]
theorem ch_j2 (s : ByteArray) (i m : Nat) (x least : Int) (hs : s.size ≤ 4096) (hi : i < s.size) (hm3 : m ≤ 3) : ∃ r, Ev (fun k => spec_Character.j2 k s (i : Int) x (m : Int) least) r ∧ ChOk s i r := by
  by_cases h1 : wrap64 ((s.size : Int) - (i : Int)) ≤ (m : Int)
  · exact ⟨(65533, 1, false), Ev.step (f := fun _ => some (65533, 1, false)) (fun k => by simp only [spec_Character.j2]; rw [if_pos h1]) (Ev.now _), fun h => by cases h⟩
  · have h2 := h1
    rw [w64 (by omega) (by omega)] at h2
    obtain ⟨r, hr, ho⟩ := ch_loop s i m least hs (by omega) hm3 m 1 x (by omega) (Nat.le_refl _)
    refine ⟨r, Ev.step (fun k => ?_) hr, ho⟩
    simp only [spec_Character.j2]
    rw [if_neg h1]
    rfl
theorem ch_f (s : ByteArray) (i : Nat) (hs : s.size ≤ 4096) (hi : i < s.size) : ∃ r, Ev (fun k => spec_Character.f k s (i : Int)) r ∧ ChOk s i r := by
  have e0 : (0 : Int) ≤ (i : Int) := by omega
  have e1 : (i : Int) < (s.size : Int) := by omega
  have hb := bt_rng s (i : Int)
  have ew : wrap64 (bt s (i : Int)) = bt s (i : Int) := w64 (by omega) (by omega)
  obtain ⟨c, hc⟩ : ∃ c, bt s (i : Int) = c := ⟨_, rfl⟩
  by_cases h1 : c < 128
  · refine ⟨(c, 1, true), Ev.congr (fun k => ?_) (Ev.now (c, 1, true)), fun _ => ⟨Int.le_refl _, by show (1 : Int) ≤ _; omega⟩⟩
    unfold spec_Character.f
    rw [if_pos e0, if_pos e1, ew, hc, if_pos h1]
  · have j1f : ∃ r, Ev (fun k => spec_Character.j1 k s (i : Int) c false) r ∧ ChOk s i r := by
      by_cases h4 : 240 ≤ c
      · by_cases h5 : c ≤ 244
        · obtain ⟨r, hr, ho⟩ := ch_j2 s i 3 (wrap64 (c - 240)) 65536 hs hi (Nat.le_refl _)
          exact ⟨r, Ev.step (fun k => by simp only [spec_Character.j1]; rw [if_neg (by simp), if_pos h4, if_pos h5]; rfl) hr, ho⟩
        · exact ⟨(65533, 1, false), Ev.step (f := fun _ => some (65533, 1, false)) (fun k => by simp only [spec_Character.j1]; rw [if_neg (by simp), if_pos h4, if_neg h5]) (Ev.now _), fun h => by cases h⟩
      · exact ⟨(65533, 1, false), Ev.step (f := fun _ => some (65533, 1, false)) (fun k => by simp only [spec_Character.j1]; rw [if_neg (by simp), if_neg h4]) (Ev.now _), fun h => by cases h⟩
    have j1t : ∃ r, Ev (fun k => spec_Character.j1 k s (i : Int) c true) r ∧ ChOk s i r := by
      obtain ⟨r, hr, ho⟩ := ch_j2 s i 2 (wrap64 (c - 224)) 2048 hs hi (by omega)
      exact ⟨r, Ev.step (fun k => by simp only [spec_Character.j1]; rw [if_pos trivial]; rfl) hr, ho⟩
    have j0f : ∃ r, Ev (fun k => spec_Character.j0 k s (i : Int) c false) r ∧ ChOk s i r := by
      by_cases h3 : 224 ≤ c
      · by_cases h4 : c ≤ 239
        · obtain ⟨r, hr, ho⟩ := j1t
          exact ⟨r, Ev.step (fun k => by simp only [spec_Character.j0]; rw [if_neg (by simp), if_pos h3, decide_eq_true h4]) hr, ho⟩
        · obtain ⟨r, hr, ho⟩ := j1f
          exact ⟨r, Ev.step (fun k => by simp only [spec_Character.j0]; rw [if_neg (by simp), if_pos h3, decide_eq_false h4]) hr, ho⟩
      · obtain ⟨r, hr, ho⟩ := j1f
        exact ⟨r, Ev.step (fun k => by simp only [spec_Character.j0]; rw [if_neg (by simp), if_neg h3]) hr, ho⟩
    have j0t : ∃ r, Ev (fun k => spec_Character.j0 k s (i : Int) c true) r ∧ ChOk s i r := by
      obtain ⟨r, hr, ho⟩ := ch_j2 s i 1 (wrap64 (c - 192)) 128 hs hi (by omega)
      exact ⟨r, Ev.step (fun k => by simp only [spec_Character.j0]; rw [if_pos trivial]; rfl) hr, ho⟩
    by_cases h2 : 194 ≤ c
    · by_cases h3 : c ≤ 223
      · obtain ⟨r, hr, ho⟩ := j0t
        exact ⟨r, Ev.congr (fun k => by unfold spec_Character.f; rw [if_pos e0, if_pos e1, ew, hc, if_neg h1, if_pos h2, decide_eq_true h3]) hr, ho⟩
      · obtain ⟨r, hr, ho⟩ := j0f
        exact ⟨r, Ev.congr (fun k => by unfold spec_Character.f; rw [if_pos e0, if_pos e1, ew, hc, if_neg h1, if_pos h2, decide_eq_false h3]) hr, ho⟩
    · obtain ⟨r, hr, ho⟩ := j0f
      exact ⟨r, Ev.congr (fun k => by unfold spec_Character.f; rw [if_pos e0, if_pos e1, ew, hc, if_neg h1, if_neg h2]) hr, ho⟩
theorem utf_l (s : ByteArray) (hs : s.size ≤ 4096) : ∀ (d i : Nat), s.size ≤ i + d → i ≤ 9000 → ∃ b, Ev (fun k => spec_UTF8.l0 k s (i : Int)) b := by
  intro d
  induction d with
  | zero =>
    intro i hd hi
    exact ⟨true, Ev.step (f := fun _ => some true) (fun k => by simp only [spec_UTF8.l0]; rw [if_neg (by omega)]) (Ev.now _)⟩
  | succ d ih =>
    intro i hd hi
    by_cases h1 : i < s.size
    · obtain ⟨r, hr, ho⟩ := ch_f s i hs h1
      by_cases h2 : r.2.2 = true
      · obtain ⟨h3, h4⟩ := ho h2
        obtain ⟨n, hn⟩ : ∃ n : Nat, r.2.1 = (n : Int) := ⟨r.2.1.toNat, by omega⟩
        obtain ⟨b, hb⟩ := ih (i + n) (by omega) (by omega)
        refine ⟨b, Ev.step (f := fun k => (spec_Character.f k s (i : Int)).bind fun bt103 => (if bt103.2.2 = true then (spec_UTF8.l0 k s (wrap64 ((i : Int) + bt103.2.1))) else (some false))) (fun k => by simp only [spec_UTF8.l0]; rw [if_pos (by omega)]) (Ev.bind hr ?_)⟩
        refine Ev.congr (fun k => ?_) hb
        rw [if_pos h2, hn, w64 (by omega) (by omega)]
        rfl
      · refine ⟨false, Ev.step (f := fun k => (spec_Character.f k s (i : Int)).bind fun bt103 => (if bt103.2.2 = true then (spec_UTF8.l0 k s (wrap64 ((i : Int) + bt103.2.1))) else (some false))) (fun k => by simp only [spec_UTF8.l0]; rw [if_pos (by omega)]) (Ev.bind hr ?_)⟩
        exact Ev.congr (fun k => by rw [if_neg h2]) (Ev.now false)
    · exact ⟨true, Ev.step (f := fun _ => some true) (fun k => by simp only [spec_UTF8.l0]; rw [if_neg (by omega)]) (Ev.now _)⟩
theorem utf_f (s : ByteArray) (hs : s.size ≤ 4096) : ∃ b, Ev (fun k => spec_UTF8.f k s) b := by
  obtain ⟨b, hb⟩ := utf_l s hs s.size 0 (by omega) (by omega)
  exact ⟨b, Ev.congr (fun k => by unfold spec_UTF8.f; rfl) hb⟩
theorem among_l (c : Int) (s : ByteArray) (hs : s.size ≤ 4096) : ∀ (d i : Nat), i + d = s.size → ∃ b, Ev (fun k => spec_among.l0 k c s (i : Int)) b ∧ (b = true ↔ ∃ j, i ≤ j ∧ j < s.size ∧ bt s (j : Int) = c) := by
  intro d
  induction d with
  | zero =>
    intro i hd
    exact ⟨false, Ev.step (f := fun _ => some false) (fun k => by simp only [spec_among.l0]; rw [if_neg (by omega)]) (Ev.now _), ⟨fun h => (by cases h), fun ⟨j, h1, h2, _⟩ => by omega⟩⟩
  | succ d ih =>
    intro i hd
    by_cases h1 : bt s (i : Int) = c
    · exact ⟨true, Ev.step (f := fun _ => some true) (fun k => by simp only [spec_among.l0]; rw [if_pos (by omega), if_pos (by omega), if_pos h1]) (Ev.now _), ⟨fun _ => ⟨i, Nat.le_refl _, by omega, h1⟩, fun _ => rfl⟩⟩
    · obtain ⟨b, hb, hbb⟩ := ih (i + 1) (by omega)
      refine ⟨b, Ev.step (fun k => ?_) hb, hbb.trans ⟨fun ⟨j, h2, h3⟩ => ⟨j, by omega, h3⟩, fun ⟨j, h2, h3, h4⟩ => ⟨j, ?_, h3, h4⟩⟩⟩
      · simp only [spec_among.l0]
        rw [if_pos (by omega), if_pos (by omega), if_neg h1, w64 (by omega) (by omega)]
        rfl
      · rcases Nat.lt_or_eq_of_le h2 with h5 | h5
        · exact h5
        · subst h5; exact absurd h4 h1
theorem among_f (c : Int) (s : ByteArray) (hs : s.size ≤ 4096) : ∃ b, Ev (fun k => spec_among.f k c s) b ∧ (b = true ↔ ∃ j, j < s.size ∧ bt s (j : Int) = c) := by
  obtain ⟨b, hb, hbb⟩ := among_l c s hs s.size 0 (by omega)
  exact ⟨b, Ev.congr (fun k => by unfold spec_among.f; rfl) hb, hbb.trans ⟨fun ⟨j, _, h⟩ => ⟨j, h⟩, fun ⟨j, h⟩ => ⟨j, Nat.zero_le _, h⟩⟩⟩
end Go.Proofs.YthcafnmagidpiaaDoor.MFnVtTokensu

/- Strings, words and types of the lexer against the specification's. -/
namespace Go.Proofs.YthcafnmagidpiaaDoor.MFnVtTokensw
open Go Go.RowKit Go.Proofs.YthcafnmagidpiaaDoor.MFnVtTokens Go.Proofs.YthcafnmagidpiaaDoorW.PrintWords Go.Proofs.YthcafnmagidpiaaDoorW.PrintLast Go.Proofs.YthcafnmagidpiaaDoor.Hlp Go.Proofs.YthcafnmagidpiaaDoor.MFnVtTokensu
set_option linter.unusedVariables false

theorem bt_d {s : ByteArray} {p : Nat} {c : UInt8} {r : List UInt8} (h : (bl s).drop p = c :: r) : bt s (p : Int) = (c.toNat : Int) ∧ p < s.size ∧ (bl s).drop (p + 1) = r := by
  have h2 := congrArg List.length h
  rw [List.length_drop, bl_len] at h2
  simp only [List.length_cons] at h2
  have hp : p < (bl s).length := by rw [bl_len]; omega
  rw [List.drop_eq_getElem_cons hp] at h
  injection h with h3 h4
  exact ⟨by rw [bt_nat s p hp, h3], by omega, h4⟩
theorem nat_eq {c d : UInt8} : ((c.toNat : Int) = (d.toNat : Int)) ↔ c = d :=
  ⟨fun h => UInt8.toNat_inj.mp (by exact_mod_cast h), fun h => by rw [h]⟩
/-- What quoted says from a place on. -/
def qRes (i at_ : Nat) (kind : Int) (o : Option Nat) : Int × Int × Bool := match o with
  | none => (0, 1, true)
  | some n => (((i + n : Nat) : Int), kind, true)
theorem quoted_l (s : ByteArray) (at_ : Nat) (kind : Int) (q : UInt8) (hq : q ≠ 92) (hs : s.size ≤ 4096) (hat : at_ < s.size) (hb : bt s (at_ : Int) = (q.toNat : Int)) : ∀ (m : Nat) (l : List UInt8) (i : Nat), l.length ≤ m → (bl s).drop i = l → i ≤ 9000 →
    Ev (fun k => spec_quoted.l0 k s (at_ : Int) kind (i : Int)) (qRes i at_ kind (quo q l)) := by
  intro m
  induction m using Nat.strongRecOn with
  | _ m ih =>
  intro l i hm hl hi
  cases l with
  | nil =>
    have hlen := congrArg List.length hl
    rw [List.length_drop, bl_len] at hlen
    simp only [List.length_nil] at hlen
    exact Ev.step (f := fun _ => some (0, 1, true)) (fun k => by simp only [spec_quoted.l0]; rw [if_neg (by omega)]) (Ev.now _)
  | cons c r =>
    obtain ⟨h1, h2, h3⟩ := bt_d hl
    by_cases hc : c = q
    · subst hc
      rw [quo_eq]
      refine Ev.step (f := fun _ => some (((i + 1 : Nat) : Int), kind, true)) (fun k => ?_) (Ev.now _)
      simp only [spec_quoted.l0]
      rw [if_pos (by omega), if_pos (by omega), h1, if_neg (fun e => hq (nat_eq.mp (by rw [e]; rfl))), if_pos (by omega), if_pos (by omega), hb, if_pos rfl, w64 (by omega) (by omega)]
      rfl
    · by_cases h92 : c = 92
      · subst h92
        rw [quo_esc hq]
        cases r with
        | nil =>
          have hlen := congrArg List.length h3
          rw [List.length_drop, bl_len] at hlen
          simp only [List.length_nil] at hlen
          refine Ev.step (f := fun k => spec_quoted.l0 k s (at_ : Int) kind ((i + 2 : Nat) : Int)) (fun k => ?_) (Ev.step (f := fun _ => some (0, 1, true)) (fun k => by simp only [spec_quoted.l0]; rw [if_neg (by omega)]) (Ev.now _))
          simp only [spec_quoted.l0]
          rw [if_pos (by omega), if_pos (by omega), h1, if_pos (show (((92 : UInt8).toNat : Int)) = 92 from rfl), w64 (x := (i : Int) + 1) (by omega) (by omega), w64 (by omega) (by omega)]
          rfl
        | cons d r2 =>
          have h5 := bt_d h3
          have := ih r2.length (by simp at hm; omega) r2 (i + 2) (Nat.le_refl _) h5.2.2 (by omega)
          have e2 : qRes i at_ kind (match d :: r2 with | [] => none | _ :: r2 => (quo q r2).map (· + 2)) = qRes (i + 2) at_ kind (quo q r2) := by
            show qRes i at_ kind ((quo q r2).map (· + 2)) = _
            cases quo q r2 with
            | none => rfl
            | some n => simp only [qRes, Option.map_some]; congr 2; omega
          rw [e2]
          refine Ev.step (fun k => ?_) this
          simp only [spec_quoted.l0]
          rw [if_pos (by omega), if_pos (by omega), h1, if_pos (show (((92 : UInt8).toNat : Int)) = 92 from rfl), w64 (x := (i : Int) + 1) (by omega) (by omega), w64 (by omega) (by omega)]
          rfl
      · have := ih r.length (by simp at hm; omega) r (i + 1) (Nat.le_refl _) h3 (by omega)
        rw [quo_ne hc h92]
        have e2 : qRes i at_ kind ((quo q r).map (· + 1)) = qRes (i + 1) at_ kind (quo q r) := by
          cases quo q r with
          | none => rfl
          | some n => simp only [qRes, Option.map_some]; congr 2; omega
        rw [e2]
        refine Ev.step (fun k => ?_) this
        simp only [spec_quoted.l0]
        rw [if_pos (by omega), if_pos (by omega), h1, if_neg (fun e => h92 (nat_eq.mp (by rw [e]; rfl))), if_pos (by omega), if_pos (by omega), hb, if_neg (fun e => hc (nat_eq.mp e)), w64 (by omega) (by omega)]
        rfl
/-- A string's end by the specification and by the lexer. -/
theorem quoted_f (s : ByteArray) (at_ : Nat) (kind : Int) (q : UInt8) (l : List UInt8) (hq : q ≠ 92) (hs : s.size ≤ 4096) (hl : (bl s).drop at_ = q :: l) : Ev (fun k => spec_quoted.f k s (at_ : Int) kind) (qRes (at_ + 1) at_ kind (quo q l)) := by
  obtain ⟨h1, h2, h3⟩ := bt_d hl
  have := quoted_l s at_ kind q hq hs h2 h1 l.length l (at_ + 1) (Nat.le_refl _) h3 (by omega)
  refine Ev.congr (fun k => ?_) this
  unfold spec_quoted.f
  rw [w64 (by omega) (by omega)]
  rfl
/-- The types' words. -/
theorem words_eq (s : List UInt8) (a : ByteArray) (h : bl a = s) : ∃ x b, dbus_zzVarType.f a = some (x, b) ∧ (b = true ↔ ((tnF s tnW).2 = true ∨ s = [100, 111, 117, 98, 108, 101])) := by
  have ht : a.toList = s := by rw [toList_bl, h]
  unfold dbus_zzVarType.f
  rw [ht]
  have hb : ∀ l : List UInt8, (⟨l.toArray⟩ : ByteArray).toList = l := fun l => by rw [toList_bl]; rfl
  simp only [tnF, tnW, hb]
  by_cases h1 : s = [98, 111, 111, 108, 101, 97, 110]
  · rw [if_pos h1]; exact ⟨_, _, rfl, by rw [if_pos h1]; simp⟩
  rw [if_neg h1]
  by_cases h2 : s = [98, 121, 116, 101]
  · rw [if_pos h2]; exact ⟨_, _, rfl, by rw [if_neg h1, if_pos h2]; simp⟩
  rw [if_neg h2]
  by_cases h3 : s = [105, 110, 116, 49, 54]
  · rw [if_pos h3]; exact ⟨_, _, rfl, by rw [if_neg h1, if_neg h2, if_pos h3]; simp⟩
  rw [if_neg h3]
  by_cases h4 : s = [117, 105, 110, 116, 49, 54]
  · rw [if_pos h4]; exact ⟨_, _, rfl, by rw [if_neg h1, if_neg h2, if_neg h3, if_pos h4]; simp⟩
  rw [if_neg h4]
  by_cases h5 : s = [105, 110, 116, 51, 50]
  · rw [if_pos h5]; exact ⟨_, _, rfl, by rw [if_neg h1, if_neg h2, if_neg h3, if_neg h4, if_pos h5]; simp⟩
  rw [if_neg h5]
  by_cases h6 : s = [117, 105, 110, 116, 51, 50]
  · rw [if_pos h6]; exact ⟨_, _, rfl, by rw [if_neg h1, if_neg h2, if_neg h3, if_neg h4, if_neg h5, if_pos h6]; simp⟩
  rw [if_neg h6]
  by_cases h7 : s = [105, 110, 116, 54, 52]
  · rw [if_pos h7]; exact ⟨_, _, rfl, by rw [if_neg h1, if_neg h2, if_neg h3, if_neg h4, if_neg h5, if_neg h6, if_pos h7]; simp⟩
  rw [if_neg h7]
  by_cases h8 : s = [117, 105, 110, 116, 54, 52]
  · rw [if_pos h8]; exact ⟨_, _, rfl, by rw [if_neg h1, if_neg h2, if_neg h3, if_neg h4, if_neg h5, if_neg h6, if_neg h7, if_pos h8]; simp⟩
  rw [if_neg h8, if_neg h1, if_neg h2, if_neg h3, if_neg h4, if_neg h5, if_neg h6, if_neg h7, if_neg h8]
  by_cases h9 : s = [100, 111, 117, 98, 108, 101]
  · rw [if_pos h9]; exact ⟨_, _, rfl, by simp [h9]⟩
  rw [if_neg h9]
  by_cases h10 : s = [115, 116, 114, 105, 110, 103]
  · rw [if_pos h10, if_pos h10]; exact ⟨_, _, rfl, by simp⟩
  rw [if_neg h10, if_neg h10]
  by_cases h11 : s = [111, 98, 106, 101, 99, 116, 112, 97, 116, 104]
  · rw [if_pos h11, if_pos h11]; exact ⟨_, _, rfl, by simp⟩
  rw [if_neg h11, if_neg h11]
  by_cases h12 : s = [115, 105, 103, 110, 97, 116, 117, 114, 101]
  · rw [if_pos h12]; exact ⟨_, _, rfl, by simp [h12]⟩
  rw [if_neg h12]
  exact ⟨_, _, rfl, by simp [h9, h12]⟩
end Go.Proofs.YthcafnmagidpiaaDoor.MFnVtTokensw

/- The lexer's token of a type against the specification's. -/
namespace Go.Proofs.YthcafnmagidpiaaDoor.MFnVtTokensv
open Go Go.RowKit Go.Proofs.YthcafnmagidpiaaDoor.MFnVtTokens Go.Proofs.YthcafnmagidpiaaDoorW.PrintWords Go.Proofs.YthcafnmagidpiaaDoorW.PrintLast Go.Proofs.YthcafnmagidpiaaDoor.Hlp Go.Proofs.YthcafnmagidpiaaDoor.SgT Go.Proofs.YthcafnmagidpiaaDoor.MFnVtTokenst Go.Proofs.YthcafnmagidpiaaDoor.MFnVtTokensu Go.Proofs.YthcafnmagidpiaaDoor.MFnVtTokensw
set_option linter.unusedVariables false

theorem valid_f (s : ByteArray) (hs : s.size ≤ 1000000000) : ∃ b, Ev (fun k => spec_Valid.f k s) b ∧ ∃ e x, Ev (fun k => dbus_ParseSignature.f k s) (x, e) ∧ (b = true → e = none) ∧ (b = false → NP (bl s) → e ≠ none) := by
  obtain ⟨L, b, hL, hr⟩ := MFnVtTokensy.types s hs
  refine ⟨b, Ev.bind hL (Ev.now b), ?_⟩
  by_cases h0 : s.size = 0
  · refine ⟨none, ⟨#[]⟩, Ev.congr (fun k => by unfold dbus_ParseSignature.f; rw [if_pos h0]) (Ev.now _), fun _ => rfl, fun hb => ?_⟩
    rcases hr with ⟨h1, _⟩ | ⟨_, _, h2⟩
    · rw [hb] at h1; cases h1
    · rcases h2 with h2 | h2
      · omega
      · exact absurd (by rw [List.eq_nil_of_length_eq_zero (show (bl s).length = 0 from h0)]; rfl) (h2 [] (by simp))
  · by_cases h1 : 255 < s.size
    · refine ⟨dbus_validSingle.er s ⟨#[116, 111, 111, 32, 108, 111, 110, 103]⟩, ⟨#[]⟩, Ev.congr (fun k => by unfold dbus_ParseSignature.f; rw [if_neg h0, if_pos h1]) (Ev.now _), fun hb => ?_, fun _ _ h => by cases h⟩
      rcases hr with ⟨_, h2, _⟩ | ⟨h2, _⟩
      · omega
      · rw [hb] at h2; cases h2
    · obtain ⟨e, he, hee⟩ := MFnVtTokensp.ends s.size s rfl hs
      have hP : ∃ x, Ev (fun k => dbus_ParseSignature.f k s) (x, e) := by
        cases e with
        | none => exact ⟨s, Ev.congr (fun k => by unfold dbus_ParseSignature.f; rw [if_neg h0, if_neg h1]) (Ev.bind (f := fun k (e : Option (TypeId × Value)) => if e.isSome = true then some (⟨#[]⟩, e) else some (s, e)) he (Ev.congr (fun k => by rw [if_neg (by simp)]) (Ev.now (s, none))))⟩
        | some v => exact ⟨⟨#[]⟩, Ev.congr (fun k => by unfold dbus_ParseSignature.f; rw [if_neg h0, if_neg h1]) (Ev.bind (f := fun k (e : Option (TypeId × Value)) => if e.isSome = true then some (⟨#[]⟩, e) else some (s, e)) he (Ev.congr (fun k => by rw [if_pos (show (some v).isSome = true from rfl)]) (Ev.now ((⟨#[]⟩ : ByteArray), some v))))⟩
      obtain ⟨x, hx⟩ := hP
      refine ⟨e, x, hx, fun hb => ?_, fun hb hnp hn => ?_⟩
      · rcases hr with ⟨_, _, h3, h4⟩ | ⟨h2, _⟩
        · have := MFnVtTokensp.eat none ⟨#[]⟩ (MFnVtTokensp.p_nil rfl) (L.map bl) s h3 (by rw [h4]; simp [bl]) hs
          obtain ⟨K1, a1⟩ := this
          obtain ⟨K2, a2⟩ := he
          have := (a1 (K1 + K2) (by omega)).symm.trans (a2 (K1 + K2) (by omega))
          exact (Option.some.inj this).symm
        · rw [hb] at h2; cases h2
      · rcases hr with ⟨h1, _⟩ | ⟨_, _, h2⟩
        · rw [hb] at h1; cases h1
        · rcases h2 with h2 | h2
          · omega
          · obtain ⟨xs, h3, h4⟩ := hee hn hnp
            exact h2 xs h3 h4
end Go.Proofs.YthcafnmagidpiaaDoor.MFnVtTokensv

/- The specification's token: brackets, numbers, strings. -/
namespace Go.Proofs.YthcafnmagidpiaaDoor.MFnVtTokensk
open Go Go.RowKit Go.Proofs.YthcafnmagidpiaaDoor.MFnVtTokens Go.Proofs.YthcafnmagidpiaaDoorW.PrintWords Go.Proofs.YthcafnmagidpiaaDoorW.PrintLast Go.Proofs.YthcafnmagidpiaaDoor.Hlp Go.Proofs.YthcafnmagidpiaaDoor.MFnVtTokensn Go.Proofs.YthcafnmagidpiaaDoor.MFnVtTokensu Go.Proofs.YthcafnmagidpiaaDoor.MFnVtTokensw Go.Proofs.YthcafnmagidpiaaDoor.MFnVtTokensv
set_option linter.unusedVariables false

/-- The specification's token is the lexer's. -/
def Agree (l : List UInt8) (r : Int × Int × Bool) : Prop := r.2.2 = true →
  (r.2.1 = 1 ∧ ∃ er, Ev (fun k => tokF k l) (none, er)) ∨ (r.2.1 ≠ 1 ∧ ∃ n : Nat, r.1 = (n : Int) ∧ Ev (fun k => tokF k l) (some (r.2.1, n), ⟨#[]⟩))
theorem Agree.no {l : List UInt8} {a b : Int} : Agree l (a, b, false) := fun h => by cases h
def SIG : ByteArray := ⟨#[91, 93, 123, 125, 60, 62, 44, 58]⟩
theorem sig_fin : ∀ n : Fin 256, sgl (UInt8.ofNat n.val) ≠ 0 → ∃ j : Fin 8, (n.val : Int) = bt SIG (j.val : Int) ∧ sgl (UInt8.ofNat n.val) = 5 + (j.val : Int) ∧ ∀ i : Fin 8, i.val < j.val → (n.val : Int) ≠ bt SIG (i.val : Int) := by decide +kernel
theorem sig_fin0 : ∀ n : Fin 256, sgl (UInt8.ofNat n.val) = 0 → ∀ i : Fin 8, (n.val : Int) ≠ bt SIG (i.val : Int) := by decide +kernel
/-- Behind the signs that it is not. -/
theorem past (s : ByteArray) {c : UInt8} {t : List UInt8} (hl : bl s = c :: t) (r : Int × Int × Bool) : ∀ (d j : Nat), j + d ≤ 8 → (∀ i, i < j + d → (c.toNat : Int) ≠ bt SIG (i : Int)) → Ev (fun k => spec_token.l0 k s ((j + d : Nat) : Int)) r → Ev (fun k => spec_token.l0 k s (j : Int)) r
  | 0, j, _, _, h => h
  | d + 1, j, hd, hn, h => by
    have h1 := bt_d (s := s) (p := 0) (by simpa using hl)
    have h2 : bt s 0 = (c.toNat : Int) := h1.1
    have ih := past s hl r d (j + 1) (by omega) (fun i hi => hn i (by omega)) (by rw [show j + 1 + d = j + (d + 1) by omega]; exact h)
    refine Ev.step (fun k => ?_) ih
    simp only [spec_token.l0]
    rw [if_pos (by omega), if_pos (by omega), if_pos (by omega), h2, if_neg (show ¬ (c.toNat : Int) = bt (⟨#[91, 93, 123, 125, 60, 62, 44, 58]⟩ : ByteArray) (j : Int) from hn j (by omega)), w64 (by omega) (by omega)]
    rfl
theorem tok_sign (s : ByteArray) {c : UInt8} {t : List UInt8} (hl : bl s = c :: t) (h : sgl c ≠ 0) : ∃ r, Ev (fun k => spec_token.f k s) r ∧ Agree (bl s) r := by
  obtain ⟨⟨j, hj⟩, h1, h2, h3⟩ := sig_fin ⟨c.toNat, c.toNat_lt⟩ (by simpa using h)
  simp only [UInt8.ofNat_toNat] at h2
  have h4 := bt_d (s := s) (p := 0) (by simpa using hl)
  have h5 : bt s 0 = (c.toNat : Int) := h4.1
  refine ⟨(1, sgl c, true), ?_, fun _ => .inr ⟨?_, 1, rfl, ?_⟩⟩
  · refine Ev.congr (fun k => by unfold spec_token.f; rfl) (past s hl (1, sgl c, true) j 0 (by omega) (fun i hi => h3 ⟨i, by omega⟩ (by show i < j; omega)) ?_)
    rw [Nat.zero_add]
    refine Ev.step (f := fun _ => some (1, sgl c, true)) (fun k => ?_) (Ev.now _)
    simp only [spec_token.l0]
    rw [if_pos (by omega), if_pos (by omega), if_pos (by omega), h5, if_pos (show (c.toNat : Int) = bt (⟨#[91, 93, 123, 125, 60, 62, 44, 58]⟩ : ByteArray) (j : Int) from h1), w64 (by omega) (by omega), h2]
  · show sgl c ≠ 1
    rw [h2]
    omega
  · refine Ev.congr (fun k => ?_) (Ev.now (some (sgl c, 1), (⟨#[]⟩ : ByteArray)))
    rw [hl]
    show tokC k c t = _
    unfold tokC
    rw [if_pos h]
theorem to_j1 (s : ByteArray) {c : UInt8} {t : List UInt8} (hl : bl s = c :: t) (h : sgl c = 0) {r : Int × Int × Bool} (hr : Ev (fun k => spec_token.j1 k s (c.toNat : Int) (decide ((48 ≤ c.toNat ∧ c.toNat ≤ 57) ∨ c.toNat = 43 ∨ c.toNat = 45))) r) : Ev (fun k => spec_token.f k s) r := by
  have h4 := bt_d (s := s) (p := 0) (by simpa using hl)
  have h5 : bt s 0 = (c.toNat : Int) := h4.1
  refine Ev.congr (fun k => by unfold spec_token.f; rfl) (past s hl r 8 0 (by omega) (fun i hi => sig_fin0 ⟨c.toNat, c.toNat_lt⟩ (by simpa using h) ⟨i, by omega⟩) ?_)
  refine Ev.step (fun k => ?_) hr
  simp only [spec_token.l0]
  rw [if_neg (by omega), if_pos (by omega), h5]
  by_cases h1 : c.toNat = 43
  · rw [if_pos (by omega), decide_eq_true (.inr (.inl h1))]
  · rw [if_neg (by omega)]
    by_cases h2 : c.toNat = 45
    · rw [if_pos (by omega), decide_eq_true (.inr (.inr h2))]
    · rw [if_neg (by omega)]
      unfold spec_textDigit.f
      by_cases h3 : (48 : Int) ≤ (c.toNat : Int)
      · rw [if_pos h3, Option.bind_some]
        congr 1
        rw [decide_eq_decide]
        omega
      · rw [if_neg h3, Option.bind_some, decide_eq_false (by omega)]
theorem nt_nat (l : List UInt8) : ∃ n : Nat, (ntF l).1 = (n : Int) := by
  unfold ntF ntX ntD ntO ntE
  repeat' split
  all_goals exact ⟨_, rfl⟩
theorem nt_f (s : ByteArray) (h0 : 0 < s.size) (hs : s.size ≤ 4096) : spec_NumberText.f s = some (ntF (bl s)) := by
  unfold spec_NumberText.f
  rw [if_neg (by omega), if_pos (by omega)]
  rfl
theorem let_f (c : UInt8) : spec_textLetter.f (c.toNat : Int) = some (letb c) := by
  unfold spec_textLetter.f letb
  by_cases h1 : (97 : Int) ≤ (c.toNat : Int)
  · rw [if_pos h1]
    by_cases h2 : (c.toNat : Int) ≤ 122
    · rw [if_pos h2, decide_eq_true (.inl ⟨by omega, by omega⟩)]
    · rw [if_neg h2, if_pos (by omega)]
      congr 1
      rw [decide_eq_decide]
      omega
  · rw [if_neg h1]
    by_cases h3 : (65 : Int) ≤ (c.toNat : Int)
    · rw [if_pos h3]
      congr 1
      rw [decide_eq_decide]
      omega
    · rw [if_neg h3, decide_eq_false (by omega)]
theorem tok_number (s : ByteArray) {c : UInt8} {t : List UInt8} (hl : bl s = c :: t) (hs : s.size ≤ 4096) (hm : (48 ≤ c.toNat ∧ c.toNat ≤ 57) ∨ c.toNat = 43 ∨ c.toNat = 45) : ∃ r, Ev (fun k => spec_token.f k s) r ∧ Agree (bl s) r := by
  have h4 := bt_d (s := s) (p := 0) (by simpa using hl)
  have hsg : sgl c = 0 := sgl_zero ⟨fun e => by subst e; revert hm; decide, fun e => by subst e; revert hm; decide, fun e => by subst e; revert hm; decide, fun e => by subst e; revert hm; decide, fun e => by subst e; revert hm; decide, fun e => by subst e; revert hm; decide, fun e => by subst e; revert hm; decide, fun e => by subst e; revert hm; decide⟩
  have htk : ∀ k, tokF k (bl s) = numF (bl s) := fun k => by rw [hl]; exact tok_num hm
  obtain ⟨n, hn⟩ := nt_nat (bl s)
  have hnt : ntF (bl s) = ((n : Int), (ntF (bl s)).2) := by rw [← hn]
  have hj : ∀ r, Ev (fun k => if (ntF (bl s)).2 = true then (if (n : Int) < (s.size : Int) then (if 0 ≤ (n : Int) then ((spec_textDigit.f (bt s (n : Int))).bind fun t129 => (if t129 = true then (spec_token.j2 k s (n : Int) true) else (if (bt s (n : Int)) = 46 then (spec_token.j2 k s (n : Int) true) else (if (bt s (n : Int)) = 43 then (spec_token.j2 k s (n : Int) true) else (if (bt s (n : Int)) = 45 then (spec_token.j2 k s (n : Int) true) else (spec_token.j2 k s (n : Int) (decide ((bt s (n : Int)) ≥ 128)))))))) else (none)) else (spec_token.j2 k s (n : Int) false)) else (spec_token.j2 k s (n : Int) true)) r → Ev (fun k => spec_token.f k s) r := by
    intro r hr
    refine to_j1 s hl hsg ?_
    rw [decide_eq_true hm]
    refine Ev.step (fun k => ?_) hr
    simp only [spec_token.j1]
    rw [if_pos trivial, nt_f s (by omega) hs, Option.bind_some, hnt]
  have j2t : Ev (fun k => spec_token.j2 k s (n : Int) true) (0, 0, false) := Ev.step (f := fun _ => some (0, 0, false)) (fun k => by simp only [spec_token.j2]; rw [if_pos trivial]) (Ev.now _)
  by_cases hok : (ntF (bl s)).2 = true
  · have hnt2 : ntF (bl s) = (((n : Nat) : Int), true) := by rw [hnt, hok]
    cases hd : (bl s).drop n with
    | nil =>
      have hle := congrArg List.length hd
      rw [List.length_drop, bl_len] at hle
      simp only [List.length_nil] at hle
      have hag := num_agree hnt2 (by rw [hd]; intro c r e; cases e)
      refine ⟨((n : Int), 2, true), hj _ (ev_ite_pos hok (fun _ => rfl) (ev_ite_neg (by omega) (fun _ => rfl) (Ev.step (f := fun _ => some ((n : Int), 2, true)) (fun k => by simp only [spec_token.j2]; rw [if_neg (by simp), if_neg (by omega)]) (Ev.now _)))), fun _ => .inr ⟨(show (2 : Int) ≠ 1 by decide), n, rfl, ?_⟩⟩
      refine Ev.congr (fun k => ?_) (Ev.now (some (2, n), (⟨#[]⟩ : ByteArray)))
      rw [htk]
      unfold numF numE
      rw [hag, hd]
    | cons d t2 =>
      obtain ⟨hb, hlt, _⟩ := bt_d hd
      have hdg : spec_textDigit.f (d.toNat : Int) = some (decide (48 ≤ d.toNat ∧ d.toNat ≤ 57)) := by
        unfold spec_textDigit.f
        by_cases h3 : (48 : Int) ≤ (d.toNat : Int)
        · rw [if_pos h3]; congr 1; rw [decide_eq_decide]; omega
        · rw [if_neg h3, decide_eq_false (by omega)]
      have hj' : ∀ r, Ev (fun k => (if decide (48 ≤ d.toNat ∧ d.toNat ≤ 57) = true then (spec_token.j2 k s (n : Int) true) else (if (d.toNat : Int) = 46 then (spec_token.j2 k s (n : Int) true) else (if (d.toNat : Int) = 43 then (spec_token.j2 k s (n : Int) true) else (if (d.toNat : Int) = 45 then (spec_token.j2 k s (n : Int) true) else (spec_token.j2 k s (n : Int) (decide ((d.toNat : Int) ≥ 128)))))))) r → Ev (fun k => spec_token.f k s) r := by
        intro r hr
        refine hj r (ev_ite_pos hok (fun _ => rfl) (ev_ite_pos (by omega) (fun _ => rfl) (ev_ite_pos (by omega) (fun _ => rfl) (Ev.congr (fun k => ?_) hr))))
        rw [hb, hdg, Option.bind_some]
      by_cases h1 : 48 ≤ d.toNat ∧ d.toNat ≤ 57
      · exact ⟨_, hj' _ (ev_ite_pos (decide_eq_true h1) (fun _ => rfl) j2t), Agree.no⟩
      by_cases h2 : (d.toNat : Int) = 46
      · exact ⟨_, hj' _ (ev_ite_neg (by rw [decide_eq_false h1]; simp) (fun _ => rfl) (ev_ite_pos h2 (fun _ => rfl) j2t)), Agree.no⟩
      by_cases h3 : (d.toNat : Int) = 43
      · exact ⟨_, hj' _ (ev_ite_neg (by rw [decide_eq_false h1]; simp) (fun _ => rfl) (ev_ite_neg h2 (fun _ => rfl) (ev_ite_pos h3 (fun _ => rfl) j2t))), Agree.no⟩
      by_cases h5 : (d.toNat : Int) = 45
      · exact ⟨_, hj' _ (ev_ite_neg (by rw [decide_eq_false h1]; simp) (fun _ => rfl) (ev_ite_neg h2 (fun _ => rfl) (ev_ite_neg h3 (fun _ => rfl) (ev_ite_pos h5 (fun _ => rfl) j2t)))), Agree.no⟩
      by_cases h6 : 128 ≤ d.toNat
      · refine ⟨_, hj' _ (ev_ite_neg (by rw [decide_eq_false h1]; simp) (fun _ => rfl) (ev_ite_neg h2 (fun _ => rfl) (ev_ite_neg h3 (fun _ => rfl) (ev_ite_neg h5 (fun _ => rfl) ?_)))), Agree.no (a := 0) (b := 0)⟩
        rw [decide_eq_true (by omega)]
        exact j2t
      · have hag := num_agree hnt2 (by rw [hd]; intro c' r' e; injection e with e1 _; subst e1; exact ⟨h1, by omega, by omega, by omega⟩)
        have j2f : ∀ r, Ev (fun k => if letb d = true then (some (0, 1, ((d.toNat : Int) != 95))) else (if (d.toNat : Int) = 95 then (some (0, 1, ((d.toNat : Int) != 95))) else (some ((n : Int), 2, true)))) r → Ev (fun k => spec_token.f k s) r := by
          intro r hr
          refine hj' _ (ev_ite_neg (by rw [decide_eq_false h1]; simp) (fun _ => rfl) (ev_ite_neg h2 (fun _ => rfl) (ev_ite_neg h3 (fun _ => rfl) (ev_ite_neg h5 (fun _ => rfl) ?_))))
          rw [decide_eq_false (by omega)]
          refine Ev.step (fun k => ?_) hr
          simp only [spec_token.j2]
          rw [if_neg (by simp), if_pos (by omega), if_pos (by omega), hb, let_f, Option.bind_some]
        have hnum : numF (bl s) = if letb d = true then some (none, badN) else some (some (2, n), ⟨#[]⟩) := by
          unfold numF numE
          rw [hag, hd]
          simp only
          rw [if_neg h6]
        by_cases h7 : letb d = true
        · refine ⟨_, j2f _ (ev_ite_pos h7 (fun _ => rfl) (Ev.now _)), fun _ => .inl ⟨rfl, badN, Ev.congr (fun k => ?_) (Ev.now (none, badN))⟩⟩
          rw [htk, hnum, if_pos h7]
        · by_cases h8 : (d.toNat : Int) = 95
          · refine ⟨_, j2f _ (ev_ite_neg h7 (fun _ => rfl) (ev_ite_pos h8 (fun _ => rfl) (Ev.now _))), ?_⟩
            rw [h8]
            exact Agree.no
          · refine ⟨_, j2f _ (ev_ite_neg h7 (fun _ => rfl) (ev_ite_neg h8 (fun _ => rfl) (Ev.now _))), fun _ => .inr ⟨(show (2 : Int) ≠ 1 by decide), n, rfl, Ev.congr (fun k => ?_) (Ev.now (some (2, n), (⟨#[]⟩ : ByteArray)))⟩⟩
            rw [htk, hnum, if_neg h7]
  · exact ⟨_, hj _ (ev_ite_neg hok (fun _ => rfl) j2t), Agree.no⟩
end Go.Proofs.YthcafnmagidpiaaDoor.MFnVtTokensk

/- The specification's token: strings, words, types; all of it. -/
namespace Go.Proofs.YthcafnmagidpiaaDoor.MFnVtTokensm
open Go Go.RowKit Go.Proofs.YthcafnmagidpiaaDoor.MFnVtTokens Go.Proofs.YthcafnmagidpiaaDoorW.PrintWords Go.Proofs.YthcafnmagidpiaaDoorW.PrintLast Go.Proofs.YthcafnmagidpiaaDoor.Hlp Go.Proofs.YthcafnmagidpiaaDoor.MFnVtTokensn Go.Proofs.YthcafnmagidpiaaDoor.MFnVtTokenst Go.Proofs.YthcafnmagidpiaaDoor.MFnVtTokensu Go.Proofs.YthcafnmagidpiaaDoor.MFnVtTokensw Go.Proofs.YthcafnmagidpiaaDoor.MFnVtTokensv Go.Proofs.YthcafnmagidpiaaDoor.MFnVtTokensk
set_option linter.unusedVariables false

theorem q_agree (s : ByteArray) {l : List UInt8} {i at_ m : Nat} {kind : Int} {er : ByteArray} {q : UInt8} {t : List UInt8} (hk : kind ≠ 1) (him : i = m) (ht : ∀ k, tokF k (bl s) = some (strF kind m er (quo q t))) : Agree (bl s) (qRes i at_ kind (quo q t)) := by
  intro _
  unfold qRes strF at *
  cases h : quo q t with
  | none => exact .inl ⟨rfl, er, Ev.congr (fun k => by rw [ht, h]) (Ev.now _)⟩
  | some n =>
    refine .inr ⟨hk, i + n, rfl, Ev.congr (fun k => ?_) (Ev.now (some (kind, i + n), (⟨#[]⟩ : ByteArray)))⟩
    rw [ht, h, him]
/-- Behind signs, numbers and a string's mark. -/
theorem to_j3 (s : ByteArray) {c : UInt8} {t : List UInt8} (hl : bl s = c :: t) (h : sgl c = 0) (hm : ¬ ((48 ≤ c.toNat ∧ c.toNat ≤ 57) ∨ c.toNat = 43 ∨ c.toNat = 45)) {r : Int × Int × Bool} (hr : Ev (fun k => spec_token.j3 k s (c.toNat : Int) (decide (c = 34 ∨ c = 39))) r) : Ev (fun k => spec_token.f k s) r := by
  refine to_j1 s hl h ?_
  rw [decide_eq_false hm]
  refine Ev.step (fun k => ?_) hr
  simp only [spec_token.j1]
  rw [if_neg (by simp)]
  by_cases h1 : c = 34
  · subst h1
    rw [if_pos (show (((34 : UInt8).toNat : Int)) = 34 from rfl), decide_eq_true (.inl rfl)]
  · rw [if_neg (fun e => h1 (nat_eq.mp (by rw [e]; rfl)))]
    congr 1
    rw [Bool.eq_iff_iff, beq_iff_eq, decide_eq_true_iff]
    exact ⟨fun e => .inr (nat_eq.mp (by rw [e]; rfl)), fun e => by rcases e with e | e; exact absurd e h1; subst e; rfl⟩
theorem tok_string (s : ByteArray) {c : UInt8} {t : List UInt8} (hl : bl s = c :: t) (hs : s.size ≤ 4096) (hc : c = 34 ∨ c = 39) : ∃ r, Ev (fun k => spec_token.f k s) r ∧ Agree (bl s) r := by
  have hq := quoted_f s 0 3 c t (by rcases hc with rfl | rfl <;> decide) hs (by simpa using hl)
  refine ⟨_, to_j3 s hl (by rcases hc with rfl | rfl <;> rfl) (by rcases hc with rfl | rfl <;> decide) ?_, q_agree s (l := bl s) (i := 0 + 1) (at_ := 0) (m := 1) (kind := 3) (er := unT) (q := c) (t := t) (by decide) rfl (fun k => ?_)⟩
  · rw [decide_eq_true hc]
    refine Ev.step (f := fun k => (spec_quoted.f k s 0 3).bind fun bt131 => (some (bt131.1, bt131.2.1, bt131.2.2))) (fun k => by simp only [spec_token.j3]; rw [if_pos trivial]) ?_
    exact Ev.bind hq (Ev.now _)
  · rw [hl]
    show tokC k c t = _
    unfold tokC
    rw [if_neg (by rcases hc with rfl | rfl <;> decide), if_pos hc.symm]
theorem tok_bstring (s : ByteArray) {q : UInt8} {t : List UInt8} (hl : bl s = 98 :: q :: t) (hs : s.size ≤ 4096) (hc : q = 34 ∨ q = 39) : ∃ r, Ev (fun k => spec_token.f k s) r ∧ Agree (bl s) r := by
  have h1 := bt_d (s := s) (p := 0) (by simpa using hl)
  have h2 := bt_d (s := s) (p := 1) (c := q) (r := t) h1.2.2
  have h3 : bt s 1 = (q.toNat : Int) := h2.1
  have hq := quoted_f s 1 14 q t (by rcases hc with rfl | rfl <;> decide) hs h1.2.2
  refine ⟨_, to_j3 s hl rfl (by decide) ?_, q_agree s (l := bl s) (i := 1 + 1) (at_ := 1) (m := 2) (kind := 14) (er := unB) (q := q) (t := t) (by decide) rfl (fun k => by rw [hl]; exact tok_b hc)⟩
  rw [decide_eq_false (by decide)]
  have j4 : Ev (fun k => spec_token.j4 k s 98 true) (qRes (1 + 1) 1 14 (quo q t)) := by
    refine Ev.step (f := fun k => (spec_quoted.f k s 1 14).bind fun bt134 => (some (bt134.1, bt134.2.1, bt134.2.2))) (fun k => by simp only [spec_token.j4]; rw [if_pos trivial]) ?_
    exact Ev.bind hq (Ev.now _)
  refine Ev.step (f := fun k => spec_token.j4 k s 98 true) (fun k => ?_) j4
  show spec_token.j3 (k + 1) s 98 false = _
  simp only [spec_token.j3]
  rw [if_neg (by simp), if_pos trivial, if_pos (by omega), if_pos (by omega), h3]
  rcases hc with rfl | rfl
  · rw [if_pos (by rfl)]
  · rw [if_neg (by decide)]; rfl
theorem ex_take (s : ByteArray) (n : Nat) (hn : n ≤ s.size) : bl (s.extract 0 n) = (bl s).take n := by rw [bl_extract]; simp
theorem paired_l (s : ByteArray) (hs : s.size ≤ 4096) : ∀ (d i : Nat) (b : Bool), i + d = s.size → ∃ b', Ev (fun k => spec_paired.l0 k s b (i : Int)) b' ∧ (b' = false → b = false ∧ ∀ j, i ≤ j → j < s.size → bt s (j : Int) ≠ 40 ∧ bt s (j : Int) ≠ 123) := by
  intro d
  induction d with
  | zero =>
    intro i b hd
    exact ⟨b, Ev.step (f := fun _ => some b) (fun k => by simp only [spec_paired.l0]; rw [if_neg (by omega)]) (Ev.now _), fun h => ⟨h, fun j h1 h2 => by omega⟩⟩
  | succ d ih =>
    intro i b hd
    cases b with
    | true =>
      obtain ⟨b', hb, hbb⟩ := ih (i + 1) true (by omega)
      refine ⟨b', Ev.step (fun k => ?_) hb, fun h => absurd (hbb h).1 (by simp)⟩
      simp only [spec_paired.l0]
      rw [if_pos (by omega), if_pos trivial, w64 (by omega) (by omega)]
      rfl
    | false =>
      obtain ⟨a, ha, haa⟩ := among_f (bt s (i : Int)) (⟨#[40, 41, 123, 125]⟩ : ByteArray) (by decide)
      obtain ⟨b', hb, hbb⟩ := ih (i + 1) a (by omega)
      refine ⟨b', Ev.step (f := fun k => (spec_among.f k (bt s (i : Int)) (⟨#[40, 41, 123, 125]⟩ : ByteArray)).bind fun t106 => (spec_paired.l0 k s t106 (wrap64 ((i : Int) + 1)))) (fun k => by simp only [spec_paired.l0]; rw [if_pos (by omega), if_neg (by simp), if_pos (by omega)]) (Ev.bind ha (by rw [w64 (by omega) (by omega)]; exact hb)), fun h => ⟨rfl, fun j h1 h2 => ?_⟩⟩
      obtain ⟨h3, h4⟩ := hbb h
      rcases Nat.lt_or_eq_of_le h1 with h5 | h5
      · exact h4 j h5 h2
      · subst h5
        have hna : ¬ ∃ j, j < (⟨#[40, 41, 123, 125]⟩ : ByteArray).size ∧ bt (⟨#[40, 41, 123, 125]⟩ : ByteArray) (j : Int) = bt s (i : Int) := fun e => by rw [haa.mpr e] at h3; cases h3
        exact ⟨fun e => hna ⟨0, by decide, by rw [e]; decide⟩, fun e => hna ⟨2, by decide, by rw [e]; decide⟩⟩
theorem np_of {s : ByteArray} (h : ∀ j, j < s.size → bt s (j : Int) ≠ 40 ∧ bt s (j : Int) ≠ 123) : NP (bl s) := by
  have key : ∀ (p q : List UInt8) (x : UInt8), bl s = p ++ x :: q → bt s ((p.length : Nat) : Int) = (x.toNat : Int) ∧ p.length < s.size := by
    intro p q x e
    have hd : (bl s).drop p.length = x :: q := by rw [e, List.drop_left]
    have := bt_d hd
    exact ⟨this.1, this.2.1⟩
  intro p q
  refine ⟨fun e => ?_, fun e => ?_⟩
  · obtain ⟨h1, h2⟩ := key p (41 :: q) 40 e
    exact (h _ h2).1 h1
  · obtain ⟨h1, h2⟩ := key p (118 :: q) 123 e
    exact (h _ h2).2 h1
theorem plain_l (s : ByteArray) (hs : s.size ≤ 4096) : ∀ (d i : Nat), i + d = s.size → ∃ b, Ev (fun k => spec_plainTypes.l0 k s (i : Int)) b := by
  intro d
  induction d with
  | zero =>
    intro i hd
    exact ⟨true, Ev.step (f := fun _ => some true) (fun k => by simp only [spec_plainTypes.l0]; rw [if_neg (by omega)]) (Ev.now _)⟩
  | succ d ih =>
    intro i hd
    obtain ⟨b, hb⟩ := ih (i + 1) (by omega)
    have ew : wrap64 ((i : Int) + 1) = ((i + 1 : Nat) : Int) := by rw [w64 (by omega) (by omega)]; rfl
    by_cases h1 : bt s (i : Int) = 40
    · exact ⟨false, Ev.step (f := fun _ => some false) (fun k => by simp only [spec_plainTypes.l0]; rw [if_pos (by omega), if_pos (by omega), if_pos h1]) (Ev.now _)⟩
    by_cases h2 : bt s (i : Int) = 41
    · exact ⟨false, Ev.step (f := fun _ => some false) (fun k => by simp only [spec_plainTypes.l0]; rw [if_pos (by omega), if_pos (by omega), if_neg h1, if_pos h2]) (Ev.now _)⟩
    by_cases h3 : bt s (i : Int) = 123
    · by_cases h4 : ((i + 1 : Nat) : Int) = (s.size : Int)
      · exact ⟨false, Ev.step (f := fun _ => some false) (fun k => by simp only [spec_plainTypes.l0]; rw [if_pos (by omega), if_pos (by omega), if_neg h1, if_neg h2, if_pos h3, ew, if_pos h4]) (Ev.now _)⟩
      · obtain ⟨a, ha, _⟩ := among_f (bt s ((i + 1 : Nat) : Int)) (⟨#[121, 110, 113, 105, 117, 120, 116, 115, 111]⟩ : ByteArray) (by decide)
        have st : ∀ k, spec_plainTypes.l0 (k + 1) s (i : Int) = (spec_among.f k (bt s ((i + 1 : Nat) : Int)) (⟨#[121, 110, 113, 105, 117, 120, 116, 115, 111]⟩ : ByteArray)).bind fun t121 => (if t121 = true then (spec_plainTypes.l0 k s ((i + 1 : Nat) : Int)) else (some false)) := fun k => by
          simp only [spec_plainTypes.l0]
          rw [if_pos (by omega), if_pos (by omega), if_neg h1, if_neg h2, if_pos h3, ew, if_neg h4, if_pos (by omega), if_pos (by omega)]
        cases a with
        | true => exact ⟨b, Ev.step st (Ev.bind ha (ev_ite_pos rfl (fun _ => rfl) hb))⟩
        | false => exact ⟨false, Ev.step st (Ev.bind ha (ev_ite_neg (by simp) (fun _ => rfl) (Ev.now _)))⟩
    · exact ⟨b, Ev.step (fun k => by simp only [spec_plainTypes.l0]; rw [if_pos (by omega), if_pos (by omega), if_neg h1, if_neg h2, if_neg h3, ew]) hb⟩
/-- The blank is found, or a byte beyond ASCII. -/
theorem scan (s : ByteArray) (hs : s.size ≤ 4096) : ∀ (l : List UInt8) (i : Nat), (bl s).drop i = l → i ≤ s.size →
    (typL l = none → Ev (fun k => spec_token.l1 k s (i : Int)) (0, 0, false)) ∧ (∀ n r, typL l = some n → Ev (fun k => spec_token.j8 k s ((i + n : Nat) : Int) false) r → Ev (fun k => spec_token.l1 k s (i : Int)) r)
  | [], i, hl, hi => by
    have hlen := congrArg List.length hl
    rw [List.length_drop, bl_len] at hlen
    simp only [List.length_nil] at hlen
    refine ⟨fun h => (by cases h), fun n r h hr => ?_⟩
    cases h
    exact Ev.step (fun k => by simp only [spec_token.l1]; rw [if_neg (by omega)]; rfl) hr
  | c :: t, i, hl, hi => by
    obtain ⟨h1, h2, h3⟩ := bt_d hl
    obtain ⟨ih1, ih2⟩ := scan s hs t (i + 1) h3 (by omega)
    have htb : spec_textBlank.f (c.toNat : Int) = some (blankb c) := by
      rw [tt_blank]
      congr 1
      unfold ttB blankb
      rw [decide_eq_decide]
      omega
    have st : ∀ k, spec_token.l1 (k + 1) s (i : Int) = spec_token.j8 k s (i : Int) (!blankb c) := fun k => by
      simp only [spec_token.l1]
      rw [if_pos (by omega), if_pos (by omega), h1, htb, Option.bind_some]
    by_cases hb : blankb c = true
    · have hlow : ¬ (128 ≤ c.toNat) := by
        have := of_decide_eq_true (show decide (c.toNat = 32 ∨ (9 ≤ c.toNat ∧ c.toNat ≤ 13)) = true from hb)
        omega
      refine ⟨fun h => ?_, fun n r h hr => ?_⟩
      · simp only [typL] at h
        rw [if_neg hlow, if_pos hb] at h
        cases h
      · simp only [typL] at h
        rw [if_neg hlow, if_pos hb] at h
        cases h
        exact Ev.step (fun k => by rw [st, hb]; rfl) hr
    · have hbf : blankb c = false := by simpa using hb
      by_cases hh : 128 ≤ c.toNat
      · refine ⟨fun _ => ?_, fun n r h _ => ?_⟩
        · refine Ev.step st (Ev.step (f := fun _ => some (0, 0, false)) (fun k => ?_) (Ev.now _))
          rw [hbf]
          simp only [spec_token.j8]
          rw [if_pos (by rfl), if_pos (by omega), if_pos (by omega), h1, if_pos (by omega)]
        · simp only [typL] at h
          rw [if_pos hh] at h
          cases h
      · have go : ∀ r, Ev (fun k => spec_token.l1 k s ((i + 1 : Nat) : Int)) r → Ev (fun k => spec_token.l1 k s (i : Int)) r := fun r hr => by
          refine Ev.step st (Ev.step (fun k => ?_) hr)
          rw [hbf]
          simp only [spec_token.j8]
          rw [if_pos (by rfl), if_pos (by omega), if_pos (by omega), h1, if_neg (by omega), w64 (by omega) (by omega)]
          rfl
        refine ⟨fun h => go _ (ih1 ?_), fun n r h hr => ?_⟩
        · simp only [typL] at h
          rw [if_neg hh, if_neg hb] at h
          exact Option.map_eq_none_iff.1 h
        · simp only [typL] at h
          rw [if_neg hh, if_neg hb] at h
          obtain ⟨m, h4, rfl⟩ := Option.map_eq_some_iff.1 h
          exact go _ (ih2 m r h4 (by rw [show i + 1 + m = i + (m + 1) by omega]; exact hr))
end Go.Proofs.YthcafnmagidpiaaDoor.MFnVtTokensm

/- The specification's token of a type; every token. -/
namespace Go.Proofs.YthcafnmagidpiaaDoor.MFnVtTokenso
open Go Go.RowKit Go.Proofs.YthcafnmagidpiaaDoor.MFnVtTokens Go.Proofs.YthcafnmagidpiaaDoorW.PrintWords Go.Proofs.YthcafnmagidpiaaDoorW.PrintLast Go.Proofs.YthcafnmagidpiaaDoor.Hlp Go.Proofs.YthcafnmagidpiaaDoor.MFnVtTokensn Go.Proofs.YthcafnmagidpiaaDoor.MFnVtTokenst Go.Proofs.YthcafnmagidpiaaDoor.MFnVtTokensu Go.Proofs.YthcafnmagidpiaaDoor.MFnVtTokensw Go.Proofs.YthcafnmagidpiaaDoor.MFnVtTokensv Go.Proofs.YthcafnmagidpiaaDoor.MFnVtTokensk Go.Proofs.YthcafnmagidpiaaDoor.MFnVtTokensm
set_option linter.unusedVariables false

theorem ev_eq {α : Type} {f : Nat → Option α} {a b : α} (h1 : Ev f a) (h2 : Ev f b) : a = b := by
  obtain ⟨K1, a1⟩ := h1
  obtain ⟨K2, a2⟩ := h2
  exact Option.some.inj ((a1 (K1 + K2) (by omega)).symm.trans (a2 (K1 + K2) (by omega)))
theorem typL_le : ∀ (l : List UInt8) (n : Nat), typL l = some n → n ≤ l.length
  | [], n, h => by cases h; simp
  | c :: r, n, h => by
    simp only [typL] at h
    by_cases h1 : 128 ≤ c.toNat
    · rw [if_pos h1] at h; cases h
    · rw [if_neg h1] at h
      by_cases h2 : blankb c = true
      · rw [if_pos h2] at h; cases h; simp
      · rw [if_neg h2] at h
        obtain ⟨m, h3, rfl⟩ := Option.map_eq_some_iff.1 h
        have := typL_le r m h3
        simp; omega
theorem mk_bl {a : ByteArray} {l : List UInt8} (h : bl a = l) : (⟨l.toArray⟩ : ByteArray) = a := bl_ext (by rw [h]; rfl)
/-- A type's token by the specification and by the lexer. -/
def AgT (l : List UInt8) (r : Int × Int × Bool) : Prop := r.2.2 = true →
  (r.2.1 = 1 ∧ ∃ er, Ev (fun k => typF k l) (none, er)) ∨ (r.2.1 ≠ 1 ∧ ∃ n : Nat, r.1 = (n : Int) ∧ Ev (fun k => typF k l) (some (r.2.1, n), ⟨#[]⟩))
theorem bt_ex0 (s : ByteArray) (n : Nat) (h1 : 1 ≤ n) (h2 : n ≤ s.size) : bt (s.extract 0 n) 0 = bt s 0 ∧ (s.extract 0 n).size = n := by
  have hsz : (s.extract 0 n).size = n := by rw [← bl_len, ex_take s n h2, List.length_take, bl_len]; omega
  refine ⟨?_, hsz⟩
  have e1 := bt_getD (s.extract 0 n) 0
  have e2 := bt_getD s 0
  rw [show ((0 : Nat) : Int) = 0 from rfl] at e1 e2
  rw [e1, e2, ex_take s n h2, List.getD_eq_getElem?_getD, List.getD_eq_getElem?_getD, List.getElem?_take, if_pos (by omega)]
theorem ex_ex (s : ByteArray) (n : Nat) (h1 : 1 ≤ n) (h2 : n ≤ s.size) : (s.extract 0 n).extract 1 (s.extract 0 n).size = s.extract 1 n := by
  apply bl_ext
  rw [bl_extract (s.extract 0 n), ex_take s n h2, (bt_ex0 s n h1 h2).2, bl_extract, List.drop_take, List.take_take, Nat.min_self]
theorem type_tok (s : ByteArray) {c : UInt8} {t : List UInt8} (hl : bl s = c :: t) (hb : blankb c = false) (hs : s.size ≤ 4096) : ∃ r, Ev (fun k => spec_token.l1 k s 0) r ∧ AgT (bl s) r := by
  obtain ⟨sc1, sc2⟩ := scan s hs (bl s) 0 (by simp) (by omega)
  have hb0 := bt_d (s := s) (p := 0) (by simpa using hl)
  have hb1 : bt s 0 = (c.toNat : Int) := hb0.1
  cases hn : typL (bl s) with
  | none => exact ⟨_, sc1 hn, fun h => by cases h⟩
  | some n =>
    have hn1 : 1 ≤ n := typL_pos hb (by rw [← hl]; exact hn)
    have hn2 : n ≤ s.size := typL_le _ _ hn
    have go : ∀ r, Ev (fun k => spec_token.j8 k s (n : Int) false) r → Ev (fun k => spec_token.l1 k s 0) r := fun r hr => sc2 n r hn (by rw [Nat.zero_add]; exact hr)
    obtain ⟨w0, wsz⟩ := bt_ex0 s n hn1 hn2
    have hnn : ((n : Int)).toNat = n := rfl
    by_cases h64 : c = 64
    · subst h64
      have hbs : bt s 0 = 64 := hb1
      obtain ⟨b, hv, e, x, hps, hv1, hv2⟩ := valid_f (s.extract 1 n) (by rw [← bl_len, bl_extract, List.length_take, List.length_drop, bl_len]; omega)
      obtain ⟨L, b', hL, _⟩ := MFnVtTokensy.types (s.extract 1 n) (by rw [← bl_len, bl_extract, List.length_take, List.length_drop, bl_len]; omega)
      have hbb : b = b' := ev_eq hv (Ev.bind hL (Ev.now b'))
      subst hbb
      have hsg : ∃ g, Ev (fun k => spec_Single.f k (s.extract 1 n)) g ∧ (g = true → b = true) := by
        cases b with
        | true => exact ⟨_, Ev.bind (f := fun k (z : List ByteArray × Bool) => if z.2 = true then (some ((z.1.length : Int) == 1)) else (some false)) hL (ev_ite_pos rfl (fun _ => rfl) (Ev.now _)), fun _ => rfl⟩
        | false => exact ⟨false, Ev.bind (f := fun k (z : List ByteArray × Bool) => if z.2 = true then (some ((z.1.length : Int) == 1)) else (some false)) hL (ev_ite_neg (by simp) (fun _ => rfl) (Ev.now _)), fun h => h⟩
      obtain ⟨g, hg, hgb⟩ := hsg
      have hty : ∀ k, typF k (bl s) = (dbus_ParseSignature.f k (s.extract 1 n)).bind fun x => if x.2.isSome = true then some (none, errT) else some (some (13, n), ⟨#[]⟩) := fun k => by
        unfold typF
        rw [hn, Option.bind_some, if_pos (by rw [hl]; rfl), mk_bl (a := s.extract 1 n) (by rw [bl_extract, List.drop_take])]
      have j9 : ∃ r, Ev (fun k => spec_token.j9 k s (n : Int) false) r ∧ r = (if b = true then ((n : Int), 13, true) else (0, 1, true)) := by
        have htn : Ev (fun k => spec_typeNamed.f k (s.extract 0 n)) (s.extract 1 n, g) := by
          refine Ev.congr (fun k => ?_) (Ev.bind (f := fun _ (z : Bool) => some (s.extract 1 n, z)) hg (Ev.now (s.extract 1 n, g)))
          unfold spec_typeNamed.f
          rw [if_neg (by omega), if_pos (by rw [w0]; exact hbs), ex_ex s n hn1 hn2]
        have hdw : ¬ (s.extract 0 n).toList = ([100, 111, 117, 98, 108, 101] : List UInt8) := by
          rw [toList_bl, ex_take s n hn2, hl]
          obtain ⟨m, rfl⟩ : ∃ m, n = m + 1 := ⟨n - 1, by omega⟩
          rw [List.take_succ_cons]
          intro e
          injection e with e1 _
          revert e1
          decide
        refine ⟨_, Ev.step (f := fun k => (spec_typeNamed.f k (s.extract 0 n)).bind fun bt147 => (if bt147.2 = true then (some ((n : Int), 13, true)) else (spec_Valid.f k (s.extract 1 n)).bind fun t149 => (if t149 = true then (some ((n : Int), 13, true)) else (some (0, 1, true))))) (fun k => ?_) (Ev.bind htn ?_), rfl⟩
        · simp only [spec_token.j9]
          rw [if_neg (by simp), if_pos (by omega), if_pos (by omega), hnn]
          simp only [if_pos (show 0 < (s.size : Int) by omega), hbs, if_true, if_pos (show (1 : Int) ≤ (n : Int) by omega), if_neg hdw]
        · cases g with
          | true => rw [hgb rfl]; exact ev_ite_pos rfl (fun _ => rfl) (Ev.now _)
          | false =>
            refine ev_ite_neg (by simp) (fun _ => rfl) (Ev.bind hv ?_)
            cases b with
            | true => exact ev_ite_pos rfl (fun _ => rfl) (Ev.now _)
            | false => exact ev_ite_neg (by simp) (fun _ => rfl) (Ev.now _)
      obtain ⟨r9, hr9, e9⟩ := j9
      have j9t : Ev (fun k => spec_token.j9 k s (n : Int) true) (0, 0, false) := Ev.step (f := fun _ => some (0, 0, false)) (fun k => by simp only [spec_token.j9]; rw [if_pos trivial]) (Ev.now _)
      obtain ⟨pb, hpb, hpp⟩ := paired_l (s.extract 0 n) (by omega) (s.extract 0 n).size 0 false (by omega)
      obtain ⟨pl, hpl⟩ := plain_l (s.extract 1 n) (by rw [← bl_len, bl_extract, List.length_take, List.length_drop, bl_len]; omega) (s.extract 1 n).size 0 (by omega)
      have hpb' : Ev (fun k => spec_paired.f k (s.extract 0 n)) pb := Ev.congr (fun k => by unfold spec_paired.f; rfl) hpb
      have hpl' : Ev (fun k => spec_plainTypes.f k (s.extract 1 n)) pl := Ev.congr (fun k => by unfold spec_plainTypes.f; rfl) hpl
      have st8 : ∀ k, spec_token.j8 (k + 1) s (n : Int) false = (spec_paired.f k (s.extract 0 n)).bind fun t144 => (if t144 = true then ((spec_Valid.f k (s.extract 1 n)).bind fun t145 => (if t145 = true then ((spec_plainTypes.f k (s.extract 1 n)).bind fun t146 => (spec_token.j9 k s (n : Int) (!t146))) else (spec_token.j9 k s (n : Int) true))) else (spec_token.j9 k s (n : Int) false)) := fun k => by
        simp only [spec_token.j8]
        rw [if_neg (by simp), if_pos (by omega), hbs]
        simp only [if_true, if_pos (show (0 : Int) ≤ (n : Int) by omega), if_pos (show (n : Int) ≤ (s.size : Int) by omega), if_pos (show (1 : Int) ≤ (n : Int) by omega), hnn]
        rfl
      have good : b = true → AgT (bl s) ((n : Int), 13, true) := fun hb2 _ => .inr ⟨(show (13 : Int) ≠ 1 by decide), n, rfl, by
        have he := hv1 hb2
        subst he
        exact Ev.congr hty (Ev.bind (f := fun _ (x : ByteArray × Option (TypeId × Value)) => if x.2.isSome = true then some (none, errT) else some (some (13, n), ⟨#[]⟩)) hps (Ev.congr (fun k => by rw [if_neg (by simp)]) (Ev.now ((some ((13 : Int), n), (⟨#[]⟩ : ByteArray)) : Option (Int × Nat) × ByteArray))))⟩
      cases pb with
      | true =>
        cases b with
        | true =>
          cases pl with
          | true =>
            refine ⟨((n : Int), 13, true), go _ (Ev.step st8 (Ev.bind hpb' (ev_ite_pos rfl (fun _ => rfl) (Ev.bind hv (ev_ite_pos rfl (fun _ => rfl) (Ev.bind hpl' ?_)))))), good rfl⟩
            rw [e9, if_pos rfl] at hr9
            exact hr9
          | false => exact ⟨(0, 0, false), go _ (Ev.step st8 (Ev.bind hpb' (ev_ite_pos rfl (fun _ => rfl) (Ev.bind hv (ev_ite_pos rfl (fun _ => rfl) (Ev.bind hpl' j9t)))))), fun h => by cases h⟩
        | false => exact ⟨(0, 0, false), go _ (Ev.step st8 (Ev.bind hpb' (ev_ite_pos rfl (fun _ => rfl) (Ev.bind hv (ev_ite_neg (by simp) (fun _ => rfl) j9t))))), fun h => by cases h⟩
      | false =>
        refine ⟨r9, go _ (Ev.step st8 (Ev.bind hpb' (ev_ite_neg (by simp) (fun _ => rfl) hr9))), ?_⟩
        cases b with
        | true => rw [e9, if_pos rfl]; exact good rfl
        | false =>
          rw [e9, if_neg (by simp)]
          have hnp : NP (bl (s.extract 1 n)) := by
            refine np_of fun j hj => ?_
            have hsz1 : (s.extract 1 n).size = n - 1 := by rw [← bl_len, bl_extract, List.length_take, List.length_drop, bl_len]; omega
            have h1 := (hpp rfl).2 (j + 1) (by omega) (by omega)
            have e1 : bt (s.extract 0 n) ((j + 1 : Nat) : Int) = bt (s.extract 1 n) (j : Int) := by
              rw [bt_getD, bt_getD, ex_take s n hn2, bl_extract, List.getD_eq_getElem?_getD, List.getD_eq_getElem?_getD, List.getElem?_take, List.getElem?_take, List.getElem?_drop, if_pos (by omega), if_pos (by omega), Nat.add_comm 1 j]
            rw [e1] at h1
            exact h1
          have he := hv2 rfl hnp
          refine fun _ => .inl ⟨rfl, errT, ?_⟩
          cases e with
          | none => exact absurd rfl he
          | some v => exact Ev.congr hty (Ev.bind (f := fun _ (x : ByteArray × Option (TypeId × Value)) => if x.2.isSome = true then some (none, errT) else some (some (13, n), ⟨#[]⟩)) hps (Ev.congr (fun k => by rw [if_pos (show (some v).isSome = true from rfl)]) (Ev.now ((none, errT) : Option (Int × Nat) × ByteArray))))
    · have hbs : ¬ bt s 0 = 64 := fun e => h64 (nat_eq.mp (by rw [← hb1, e]; rfl))
      obtain ⟨x, b, hw, hbt⟩ := words_eq ((bl s).take n) (s.extract 0 n) (ex_take s n hn2)
      have hty : ∀ k, typF k (bl s) = if b = true then some (some (13, n), ⟨#[]⟩) else some (none, badT) := fun k => by
        unfold typF
        rw [hn, Option.bind_some, if_neg (by rw [hl]; show ¬ V64.data.toList.contains c = true; simp [V64]; exact h64), mk_bl (ex_take s n hn2), hw, Option.bind_some]
      have st8 : ∀ k, spec_token.j8 (k + 1) s (n : Int) false = spec_token.j9 k s (n : Int) false := fun k => by
        simp only [spec_token.j8]
        rw [if_neg (by simp), if_pos (by omega), if_neg hbs]
      have st9 : ∀ k, spec_token.j9 (k + 1) s (n : Int) false = if b = true then some ((n : Int), 13, true) else some (0, 1, true) := fun k => by
        simp only [spec_token.j9]
        rw [if_neg (by simp), if_pos (by omega), if_pos (by omega), hnn]
        have htn : spec_typeNamed.f k (s.extract 0 n) = some (tnF ((bl s).take n) tnW) := by
          unfold spec_typeNamed.f
          rw [if_neg (by omega), if_neg (by rw [w0]; exact hbs), toList_bl, ex_take s n hn2]
        rw [htn, Option.bind_some]
        simp only [if_pos (show 0 < (s.size : Int) by omega), if_neg hbs, toList_bl, ex_take s n hn2]
        by_cases h1 : (tnF ((bl s).take n) tnW).2 = true
        · rw [if_pos h1, if_pos (hbt.mpr (.inl h1))]
        · rw [if_neg h1]
          by_cases h2 : (bl s).take n = ([100, 111, 117, 98, 108, 101] : List UInt8)
          · rw [if_pos h2, if_pos (hbt.mpr (.inr h2))]
          · rw [if_neg h2, if_neg (fun h => by rcases hbt.mp h with h | h; exact h1 h; exact h2 h)]
      cases b with
      | true =>
        refine ⟨((n : Int), 13, true), go _ (Ev.step st8 (Ev.step (f := fun _ => some ((n : Int), 13, true)) (fun k => by rw [st9, if_pos rfl]) (Ev.now _))), fun _ => .inr ⟨(show (13 : Int) ≠ 1 by decide), n, rfl, ?_⟩⟩
        exact Ev.congr (fun k => by rw [hty, if_pos rfl]) (Ev.now ((some ((13 : Int), n), (⟨#[]⟩ : ByteArray)) : Option (Int × Nat) × ByteArray))
      | false =>
        refine ⟨(0, 1, true), go _ (Ev.step st8 (Ev.step (f := fun _ => some (0, 1, true)) (fun k => by rw [st9, if_neg (by simp)]) (Ev.now _))), fun _ => .inl ⟨rfl, badT, ?_⟩⟩
        exact Ev.congr (fun k => by rw [hty, if_neg (by simp)]) (Ev.now ((none, badT) : Option (Int × Nat) × ByteArray))
end Go.Proofs.YthcafnmagidpiaaDoor.MFnVtTokenso

/- The specification's token against the lexer's: every text. -/
namespace Go.Proofs.YthcafnmagidpiaaDoor.MFnVtTokensq
open Go Go.RowKit Go.Proofs.YthcafnmagidpiaaDoor.MFnVtTokens Go.Proofs.YthcafnmagidpiaaDoorW.PrintWords Go.Proofs.YthcafnmagidpiaaDoorW.PrintLast Go.Proofs.YthcafnmagidpiaaDoor.Hlp Go.Proofs.YthcafnmagidpiaaDoor.MFnVtTokensn Go.Proofs.YthcafnmagidpiaaDoor.MFnVtTokenst Go.Proofs.YthcafnmagidpiaaDoor.MFnVtTokensu Go.Proofs.YthcafnmagidpiaaDoor.MFnVtTokensw Go.Proofs.YthcafnmagidpiaaDoor.MFnVtTokensv Go.Proofs.YthcafnmagidpiaaDoor.MFnVtTokensk Go.Proofs.YthcafnmagidpiaaDoor.MFnVtTokensm Go.Proofs.YthcafnmagidpiaaDoor.MFnVtTokenso
set_option linter.unusedVariables false

theorem truth_agree (s : ByteArray) (n : Nat) (hn : n ≤ 5) (h : ∀ k, tokF k (bl s) = some (some (4, n), ⟨#[]⟩)) : ∃ r, spec_truthToken.f s (n : Int) = some r ∧ Agree (bl s) r := by
  have good : Agree (bl s) ((n : Int), 4, true) := fun _ => .inr ⟨(show (4 : Int) ≠ 1 by decide), n, rfl, Ev.congr h (Ev.now _)⟩
  unfold spec_truthToken.f
  rw [if_neg (by omega)]
  by_cases h1 : (n : Int) < (s.size : Int)
  · rw [if_pos h1]
    by_cases h2 : ttB (bt s (n : Int)) = true
    · rw [if_pos h2]; exact ⟨_, rfl, good⟩
    · rw [if_neg h2]
      by_cases h3 : ttS.any (fun x => x == bt s (n : Int)) = true
      · rw [if_pos h3]; exact ⟨_, rfl, good⟩
      · rw [if_neg h3]; exact ⟨_, rfl, Agree.no⟩
  · rw [if_neg h1]; exact ⟨_, rfl, good⟩
theorem tok_total (s : ByteArray) {c : UInt8} {t : List UInt8} (hl : bl s = c :: t) (hb : blankb c = false) (hs : s.size ≤ 4096) : ∃ r, Ev (fun k => spec_token.f k s) r ∧ Agree (bl s) r := by
  by_cases h1 : sgl c ≠ 0
  · exact tok_sign s hl h1
  have h1 : sgl c = 0 := Decidable.not_not.1 h1
  by_cases h2 : (48 ≤ c.toNat ∧ c.toNat ≤ 57) ∨ c.toNat = 43 ∨ c.toNat = 45
  · exact tok_number s hl hs h2
  by_cases h3 : c = 34 ∨ c = 39
  · exact tok_string s hl hs h3
  by_cases h4 : c = 98 ∧ (t.headD 0 = 34 ∨ t.headD 0 = 39)
  · obtain ⟨rfl, h4⟩ := h4
    cases t with
    | nil => rcases h4 with h4 | h4 <;> cases h4
    | cons q t => exact tok_bstring s hl hs h4
  have hb0 := bt_d (s := s) (p := 0) (by simpa using hl)
  have hne : ∀ d : UInt8, c ≠ d → ¬ (c.toNat : Int) = (d.toNat : Int) := fun d h e => h (nat_eq.mp e)
  have hc34 : ¬ (c.toNat : Int) = 34 := hne 34 fun e => h3 (.inl e)
  have hc39 : ¬ (c.toNat : Int) = 39 := hne 39 fun e => h3 (.inr e)
  have to_j4 : ∀ r, Ev (fun k => spec_token.j4 k s (c.toNat : Int) false) r → Ev (fun k => spec_token.f k s) r := by
    intro r hr
    refine to_j1 s hl h1 ?_
    rw [decide_eq_false h2]
    have hj3 : Ev (fun k => spec_token.j3 k s (c.toNat : Int) false) r := by
      refine Ev.step (fun k => ?_) hr
      simp only [spec_token.j3]
      rw [if_neg (by simp)]
      by_cases h5 : (c.toNat : Int) = 98
      · rw [if_pos h5]
        have h98 : c = 98 := nat_eq.mp h5
        by_cases h6 : (s.size : Int) > 1
        · rw [if_pos h6, if_pos h6]
          cases t with
          | nil =>
            have := congrArg List.length hl
            rw [bl_len] at this
            simp only [List.length_cons, List.length_nil] at this
            omega
          | cons q t =>
            have hb1 := bt_d (s := s) (p := 1) (c := q) (r := t) hb0.2.2
            have e1 : bt s 1 = (q.toNat : Int) := hb1.1
            have q1 : ¬ (q.toNat : Int) = 34 := fun e => h4 ⟨h98, .inl (nat_eq.mp e)⟩
            have q2 : ((q.toNat : Int) == 39) = false := beq_eq_false_iff_ne.2 fun e => h4 ⟨h98, .inr (nat_eq.mp e)⟩
            rw [e1, if_neg q1, q2]
        · rw [if_neg h6]
      · rw [if_neg h5]
    refine Ev.step (fun k => ?_) hj3
    simp only [spec_token.j1]
    rw [if_neg (by simp), if_neg hc34, beq_eq_false_iff_ne.2 hc39]
  have hlen : s.size = t.length + 1 := by
    have := congrArg List.length hl
    rw [bl_len] at this
    simpa using this
  by_cases h64 : c = 64 ∨ 128 ≤ c.toNat
  · have hcw : c ≠ 116 ∧ c ≠ 102 := by
      rcases h64 with rfl | h
      · exact ⟨by decide, by decide⟩
      · exact ⟨fun e => by subst e; revert h; decide, fun e => by subst e; revert h; decide⟩
    obtain ⟨r, hr, ha⟩ := type_tok s hl hb hs
    refine ⟨r, to_j4 r ?_, ?_⟩
    · refine Ev.step (f := fun k => spec_token.j5 k s (c.toNat : Int) false) (fun k => by simp only [spec_token.j4]; rw [if_neg (by simp), if_neg (show ¬ (c.toNat : Int) = 116 from hne 116 hcw.1)]) ?_
      refine Ev.step (f := fun k => spec_token.j6 k s) (fun k => by simp only [spec_token.j5]; rw [if_neg (by simp), if_neg (show ¬ (c.toNat : Int) = 102 from hne 102 hcw.2)]) ?_
      exact Ev.step (fun k => by simp only [spec_token.j6]) hr
    · intro hrt
      rcases h64 with rfl | h
      · have e : ∀ k, tokF k (bl s) = typF k (bl s) := fun k => by rw [hl]; exact tok_at
        rcases ha hrt with ⟨g1, er, g2⟩ | ⟨g1, n, g2, g3⟩
        · exact .inl ⟨g1, er, Ev.congr e g2⟩
        · exact .inr ⟨g1, n, g2, Ev.congr e g3⟩
      · have e : ∀ k, typF k (bl s) = none := fun k => by
          unfold typF
          rw [hl]
          simp only [typL]
          rw [if_pos h]
          rfl
        rcases ha hrt with ⟨g1, er, K, g2⟩ | ⟨g1, n, g2, K, g3⟩
        · have := (e K).symm.trans (g2 K (Nat.le_refl _))
          cases this
        · have := (e K).symm.trans (g3 K (Nat.le_refl _))
          cases this
  have hW : Word c := ⟨⟨fun e => by subst e; revert h1; decide, fun e => by subst e; revert h1; decide, fun e => by subst e; revert h1; decide, fun e => by subst e; revert h1; decide, fun e => by subst e; revert h1; decide, fun e => by subst e; revert h1; decide, fun e => by subst e; revert h1; decide, fun e => by subst e; revert h1; decide⟩, fun e => h3 (.inr e), fun e => h3 (.inl e), fun e => h64 (.inl e), Nat.lt_of_not_le fun e => h64 (.inr e), h2⟩
  have htk : ∀ k, tokF k (bl s) = if (bl s).take 4 = [116, 114, 117, 101] then some (some (4, 4), ⟨#[]⟩)
    else if (bl s).take 5 = [102, 97, 108, 115, 101] then some (some (4, 5), ⟨#[]⟩)
    else typF k (bl s) := fun k => by rw [hl]; exact tok_word hW h4
  by_cases h5 : (bl s).take 4 = [116, 114, 117, 101]
  · obtain ⟨r, hr, ha⟩ := truth_agree s 4 (by omega) (fun k => by rw [htk, if_pos h5])
    refine ⟨r, to_j4 r ?_, ha⟩
    have hc : c = 116 := by rw [hl, List.take_succ_cons] at h5; injection h5
    have h6 : 4 ≤ s.size := by
      have := congrArg List.length h5
      rw [List.length_take, bl_len] at this
      simp only [List.length_cons, List.length_nil] at this
      omega
    refine Ev.step (f := fun k => spec_token.j5 k s (c.toNat : Int) true) (fun k => ?_) (Ev.step (f := fun k => some r) (fun k => ?_) (Ev.now _))
    · simp only [spec_token.j4]
      rw [if_neg (by simp), if_pos (by rw [hc]; rfl), if_pos (by omega), if_pos (by omega), if_pos (by omega)]
      rw [toList_bl, ex_take s 4 h6, h5]
      rfl
    · simp only [spec_token.j5]
      rw [if_pos trivial]
      rw [show spec_truthToken.f s 4 = some r from hr]
      rfl
  have hj5 : ∀ r, Ev (fun k => spec_token.j5 k s (c.toNat : Int) false) r → Ev (fun k => spec_token.f k s) r := by
    intro r hr
    refine to_j4 r (Ev.step (fun k => ?_) hr)
    simp only [spec_token.j4]
    rw [if_neg (by simp)]
    by_cases h6 : (c.toNat : Int) = 116
    · rw [if_pos h6]
      by_cases h7 : (s.size : Int) ≥ 4
      · rw [if_pos h7, if_pos (by omega), if_pos (by omega), toList_bl, ex_take s 4 (by omega), beq_eq_false_iff_ne.2 h5]
      · rw [if_neg h7]
    · rw [if_neg h6]
  by_cases h6 : (bl s).take 5 = [102, 97, 108, 115, 101]
  · obtain ⟨r, hr, ha⟩ := truth_agree s 5 (by omega) (fun k => by rw [htk, if_neg h5, if_pos h6])
    refine ⟨r, hj5 r ?_, ha⟩
    have hc : c = 102 := by rw [hl, List.take_succ_cons] at h6; injection h6
    have h7 : 5 ≤ s.size := by
      have := congrArg List.length h6
      rw [List.length_take, bl_len] at this
      simp only [List.length_cons, List.length_nil] at this
      omega
    refine Ev.step (f := fun k => some r) (fun k => ?_) (Ev.now _)
    simp only [spec_token.j5]
    rw [if_neg (by simp), if_pos (by rw [hc]; rfl), if_pos (by omega), if_pos (by omega), if_pos (by omega), if_pos (by rw [toList_bl, ex_take s 5 h7, h6])]
    rw [show spec_truthToken.f s 5 = some r from hr]
    rfl
  · obtain ⟨r, hr, ha⟩ := type_tok s hl hb hs
    refine ⟨r, hj5 r ?_, ?_⟩
    · refine Ev.step (f := fun k => spec_token.j6 k s) (fun k => ?_) (Ev.step (fun k => by simp only [spec_token.j6]) hr)
      simp only [spec_token.j5]
      rw [if_neg (by simp)]
      by_cases h7 : (c.toNat : Int) = 102
      · rw [if_pos h7]
        by_cases h8 : (s.size : Int) ≥ 5
        · rw [if_pos h8, if_pos (by omega), if_pos (by omega), if_neg (by rw [toList_bl, ex_take s 5 (by omega)]; exact h6)]
        · rw [if_neg h8]
      · rw [if_neg h7]
    · intro hrt
      have e : ∀ k, tokF k (bl s) = typF k (bl s) := fun k => by rw [htk, if_neg h5, if_neg h6]
      rcases ha hrt with ⟨g1, er, g2⟩ | ⟨g1, n, g2, g3⟩
      · exact .inl ⟨g1, er, Ev.congr e g2⟩
      · exact .inr ⟨g1, n, g2, Ev.congr e g3⟩
end Go.Proofs.YthcafnmagidpiaaDoor.MFnVtTokensq

/- The specification's list of tokens against the lexer's. -/
namespace Go.Proofs.YthcafnmagidpiaaDoor.MFnVtTokensr
open Go Go.RowKit Go.Proofs.YthcafnmagidpiaaDoor.MFnVtTokens Go.Proofs.YthcafnmagidpiaaDoorW.PrintWords Go.Proofs.YthcafnmagidpiaaDoorW.PrintLast Go.Proofs.YthcafnmagidpiaaDoor.Hlp Go.Proofs.YthcafnmagidpiaaDoor.MFnVtTokensn Go.Proofs.YthcafnmagidpiaaDoor.MFnVtTokenst Go.Proofs.YthcafnmagidpiaaDoor.MFnVtTokensu Go.Proofs.YthcafnmagidpiaaDoor.MFnVtTokensw Go.Proofs.YthcafnmagidpiaaDoor.MFnVtTokensv Go.Proofs.YthcafnmagidpiaaDoor.MFnVtTokensk Go.Proofs.YthcafnmagidpiaaDoor.MFnVtTokensm Go.Proofs.YthcafnmagidpiaaDoor.MFnVtTokenso Go.Proofs.YthcafnmagidpiaaDoor.MFnVtTokensq
set_option linter.unusedVariables false

/-- The lexer's tokens of a text. -/
def Lex (l : List UInt8) (r : List S48) : Prop := ∃ K, ∀ k n, K ≤ k → K ≤ n → lexF k n l = some r
theorem Lex.nil : Lex [] [⟨0, ⟨#[]⟩⟩] := ⟨1, fun k n _ hn => by
  obtain ⟨m, rfl⟩ : ∃ m, n = m + 1 := ⟨n - 1, by omega⟩
  rfl⟩
theorem Lex.blank {c : UInt8} {t : List UInt8} {r : List S48} (hb : blankb c = true) (h : Lex t r) : Lex (c :: t) r := by
  obtain ⟨K, h⟩ := h
  refine ⟨K + 1, fun k n hk hn => ?_⟩
  obtain ⟨m, rfl⟩ : ∃ m, n = m + 1 := ⟨n - 1, by omega⟩
  unfold lexF
  rw [if_pos hb]
  exact h k m (by omega) (by omega)
theorem Lex.bad {c : UInt8} {t : List UInt8} {er : ByteArray} (hb : blankb c = false) (h : Ev (fun k => tokF k (c :: t)) (none, er)) : Lex (c :: t) [⟨1, er⟩] := by
  obtain ⟨K, h⟩ := h
  refine ⟨K + 1, fun k n hk hn => ?_⟩
  obtain ⟨m, rfl⟩ : ∃ m, n = m + 1 := ⟨n - 1, by omega⟩
  unfold lexF
  rw [if_neg (by rw [hb]; simp), show tokF k (c :: t) = some (none, er) from h k (by omega)]
  rfl
theorem Lex.tok {c : UInt8} {t : List UInt8} {kd : Int} {m : Nat} {e : ByteArray} {r : List S48} (hb : blankb c = false) (h : Ev (fun k => tokF k (c :: t)) (some (kd, m), e)) (hr : Lex ((c :: t).drop m) r) : Lex (c :: t) (⟨kd, ⟨((c :: t).take m).toArray⟩⟩ :: r) := by
  obtain ⟨K, h⟩ := h
  obtain ⟨K2, hr⟩ := hr
  refine ⟨K + K2 + 1, fun k n hk hn => ?_⟩
  obtain ⟨j, rfl⟩ : ∃ j, n = j + 1 := ⟨n - 1, by omega⟩
  unfold lexF
  rw [if_neg (by rw [hb]; simp), show tokF k (c :: t) = some (some (kd, m), e) from h k (by omega), Option.bind_some]
  show (lexF k j ((c :: t).drop m)).map _ = _
  rw [hr k j (by omega) (by omega)]
  rfl
theorem Lex.all {l : List UInt8} {r : List S48} (h : Lex l r) : Ev (fun k => lexF k k l) r := by
  obtain ⟨K, h⟩ := h
  exact ⟨K, fun k hk => h k k hk hk⟩
/-- The specification's token is the lexer's. -/
def Eq1 (y : S26) (x : S48) : Prop := y.f0 = x.f0 ∧ 0 ≤ x.f0 ∧ x.f0 ≤ 14 ∧ (x.f0 ≠ 1 → bl y.f1 = bl x.f1)
def Same : List S26 → List S48 → Prop
  | [], [] => True
  | y :: ys, x :: xs => Eq1 y x ∧ Same ys xs
  | _, _ => False
/-- What is said of a list of tokens from a place on. -/
def Said (l : List UInt8) (acc : List S26) (o : List S26 × Bool) : Prop := o.2 = true → ∃ ys rest, o.1 = acc ++ ys ∧ Lex l rest ∧ Same ys rest ∧ 1 ≤ ys.length ∧ ys.length ≤ l.length + 1
theorem Said.no {l : List UInt8} {acc : List S26} : Said l acc ([], false) := fun h => by cases h
theorem toks_l (s : ByteArray) (hs : s.size ≤ 4096) : ∀ (d p : Nat) (acc : List S26), p + d = s.size → acc.length ≤ 10000 - d → ∃ o, Ev (fun k => spec_Tokens.l1 k s acc (p : Int)) o ∧ Said ((bl s).drop p) acc o := by
  intro d
  induction d using Nat.strongRecOn with
  | _ d ih =>
  intro p acc hp hacc
  cases hl : (bl s).drop p with
  | nil =>
    have hlen := congrArg List.length hl
    rw [List.length_drop, bl_len] at hlen
    simp only [List.length_nil] at hlen
    refine ⟨(acc ++ [(⟨0, ⟨#[]⟩⟩ : S26)], true), Ev.step (f := fun k => spec_Tokens.j3 k s acc (p : Int)) (fun k => by simp only [spec_Tokens.l1]; rw [if_neg (by omega)]) (Ev.step (f := fun _ => some (acc ++ [(⟨0, ⟨#[]⟩⟩ : S26)], true)) (fun k => ?_) (Ev.now _)), fun _ => ⟨[⟨0, ⟨#[]⟩⟩], [⟨0, ⟨#[]⟩⟩], rfl, Lex.nil, ⟨⟨rfl, by decide, by decide, fun _ => rfl⟩, trivial⟩, by simp, by simp⟩⟩
    simp only [spec_Tokens.j3]
    rw [if_pos (by omega), if_pos (by omega)]
  | cons c t =>
    obtain ⟨h1, h2, h3⟩ := bt_d hl
    have hlen := congrArg List.length hl
    rw [List.length_drop, bl_len] at hlen
    simp only [List.length_cons] at hlen
    have htb : spec_textBlank.f (c.toNat : Int) = some (blankb c) := by
      rw [tt_blank]
      congr 1
      unfold ttB blankb
      rw [decide_eq_decide]
      omega
    by_cases hb : blankb c = true
    · obtain ⟨o, ho, hsd⟩ := ih (d - 1) (by omega) (p + 1) acc (by omega) (by omega)
      refine ⟨o, Ev.step (fun k => ?_) ho, fun h => ?_⟩
      · simp only [spec_Tokens.l1]
        rw [if_pos (by omega), if_pos (by omega), h1, htb, Option.bind_some, if_pos hb, w64 (by omega) (by omega)]
        rfl
      · obtain ⟨ys, rest, e1, e2, e3, e4, e5⟩ := hsd h
        rw [h3] at e2 e5
        exact ⟨ys, rest, e1, Lex.blank hb e2, e3, e4, by simp only [List.length_cons]; omega⟩
    · have hbf : blankb c = false := by simpa using hb
      have hbx : bl (s.extract p s.size) = c :: t := by
        rw [bl_extract, List.take_of_length_le (by rw [List.length_drop, bl_len]; omega), hl]
      have hsx : (s.extract p s.size).size = s.size - p := by rw [← bl_len, hbx, List.length_cons]; omega
      obtain ⟨r, hr, ha⟩ := tok_total (s.extract p s.size) hbx hbf (by omega)
      have go : ∀ o, Ev (fun k => if r.2.2 = true then (if r.2.1 = 1 then (some ((acc ++ [(⟨1, (⟨#[]⟩ : ByteArray)⟩ : S26)]), true)) else (if (p : Int) ≤ (wrap64 ((p : Int) + r.1)) then (if (wrap64 ((p : Int) + r.1)) ≤ (s.size : Int) then (spec_Tokens.l0 k s (acc ++ [(⟨r.2.1, s.extract p ((wrap64 ((p : Int) + r.1)) : Int).toNat⟩ : S26)]) (wrap64 ((p : Int) + r.1))) else (none)) else (none))) else (some (([] : List (S26)), false))) o → Ev (fun k => spec_Tokens.l1 k s acc (p : Int)) o := by
        intro o ho
        refine Ev.step (f := fun k => spec_Tokens.j3 k s acc (p : Int)) (fun k => ?_) (Ev.step (fun k => ?_) (Ev.bind (f := fun k (r : Int × Int × Bool) => if r.2.2 = true then (if r.2.1 = 1 then (some ((acc ++ [(⟨1, (⟨#[]⟩ : ByteArray)⟩ : S26)]), true)) else (if (p : Int) ≤ (wrap64 ((p : Int) + r.1)) then (if (wrap64 ((p : Int) + r.1)) ≤ (s.size : Int) then (spec_Tokens.l0 k s (acc ++ [(⟨r.2.1, s.extract p ((wrap64 ((p : Int) + r.1)) : Int).toNat⟩ : S26)]) (wrap64 ((p : Int) + r.1))) else (none)) else (none))) else (some (([] : List (S26)), false))) hr ho))
        · simp only [spec_Tokens.l1]
          rw [if_pos (by omega), if_pos (by omega), h1, htb, Option.bind_some, if_neg hb]
        · simp only [spec_Tokens.j3]
          rw [if_neg (by omega), if_pos (by omega), if_pos (by omega), Int.toNat_natCast]
          simp only [if_pos (show acc.length < 5864062014805 by omega)]
      by_cases hr2 : r.2.2 = true
      · rw [hbx] at ha
        by_cases hr1 : r.2.1 = 1
        · refine ⟨(acc ++ [(⟨1, ⟨#[]⟩⟩ : S26)], true), go _ (ev_ite_pos hr2 (fun _ => rfl) (ev_ite_pos hr1 (fun _ => rfl) (Ev.now _))), fun _ => ?_⟩
          rcases ha hr2 with ⟨_, er, g2⟩ | ⟨g1, _⟩
          · exact ⟨[⟨1, ⟨#[]⟩⟩], [⟨1, er⟩], rfl, Lex.bad hbf g2, ⟨⟨rfl, (show (0 : Int) ≤ 1 by decide), (show (1 : Int) ≤ 14 by decide), fun h => absurd rfl h⟩, trivial⟩, by simp, by simp⟩
          · exact absurd hr1 g1
        · rcases ha hr2 with ⟨g1, _⟩ | ⟨g1, n, g2, g3⟩
          · exact absurd g1 hr1
          · have hok : TkOk (c :: t) (some (r.2.1, n), ⟨#[]⟩) := by
              obtain ⟨K, g3⟩ := g3
              exact tok_ok hbf (g3 K (Nat.le_refl _))
            obtain ⟨k1, k2, k3, k4⟩ := hok (r.2.1, n) rfl
            simp only at k1 k2 k3 k4
            have hpn : wrap64 ((p : Int) + r.1) = ((p + n : Nat) : Int) := by
              rw [g2, w64 (by omega) (by simp only [List.length_cons] at k2; omega)]
              rfl
            simp only [List.length_cons] at k2
            obtain ⟨o, ho, hsd⟩ := ih (d - n) (by omega) (p + n) (acc ++ [(⟨r.2.1, s.extract p (p + n)⟩ : S26)]) (by omega) (by simp only [List.length_append, List.length_cons, List.length_nil]; omega)
            refine ⟨o, go _ (ev_ite_pos hr2 (fun _ => rfl) (ev_ite_neg hr1 (fun _ => rfl) (ev_ite_pos (by rw [hpn]; omega) (fun _ => rfl) (ev_ite_pos (by rw [hpn]; omega) (fun _ => rfl) ?_)))), fun h => ?_⟩
            · rw [hpn]
              exact Ev.step (fun k => by simp only [spec_Tokens.l0]; rfl) ho
            · obtain ⟨ys, rest, e1, e2, e3, e4, e5⟩ := hsd h
              rw [← List.drop_drop, hl] at e2
              rw [List.length_drop, bl_len] at e5
              refine ⟨⟨r.2.1, s.extract p (p + n)⟩ :: ys, ⟨r.2.1, ⟨((c :: t).take n).toArray⟩⟩ :: rest, by rw [e1, List.append_assoc]; rfl, Lex.tok hbf g3 e2, ⟨⟨rfl, k3, k4, fun _ => ?_⟩, e3⟩, by simp, by simp only [List.length_cons]; omega⟩
              show bl (s.extract p (p + n)) = (c :: t).take n
              rw [bl_extract, hl, show p + n - p = n by omega]
      · exact ⟨([], false), go _ (ev_ite_neg hr2 (fun _ => rfl) (Ev.now _)), Said.no⟩
/-- The specification's tokens of a text, and what they say of the lexer. -/
theorem tokens_f (s : ByteArray) (hs : s.size ≤ 4096) : ∃ o, Ev (fun k => spec_Tokens.f k s) o ∧ Said (bl s) [] o := by
  obtain ⟨u, hu⟩ := utf_f s hs
  obtain ⟨z, hz, _⟩ := among_f 0 s hs
  have hno : Ev (fun k => spec_Tokens.j0 k s ([] : List S26) true) ([], false) := Ev.step (f := fun _ => some ([], false)) (fun k => by simp only [spec_Tokens.j0]; rw [if_pos trivial]) (Ev.now _)
  cases u with
  | false => exact ⟨([], false), Ev.bind hu (ev_ite_neg (by simp) (fun _ => rfl) hno), Said.no⟩
  | true =>
    cases z with
    | true => exact ⟨([], false), Ev.bind hu (ev_ite_pos rfl (fun _ => rfl) (Ev.bind hz hno)), Said.no⟩
    | false =>
      obtain ⟨o, ho, hsd⟩ := toks_l s hs s.size 0 [] (by omega) (by simp)
      refine ⟨o, Ev.bind hu (ev_ite_pos rfl (fun _ => rfl) (Ev.bind hz (Ev.step (f := fun k => spec_Tokens.l0 k s [] 0) (fun k => by simp only [spec_Tokens.j0]; rw [if_neg (by simp)]) (Ev.step (fun k => by simp only [spec_Tokens.l0]; rfl) ho)))), hsd⟩
end Go.Proofs.YthcafnmagidpiaaDoor.MFnVtTokensr

/- What the implementation's function gives of a text whose tokens are known. -/
namespace Go.Proofs.YthcafnmagidpiaaDoor.MFnVtTokensz
open Go Go.RowKit Go.Proofs.YthcafnmagidpiaaDoor.MFnVtTokens Go.Proofs.YthcafnmagidpiaaDoorW.PrintWords Go.Proofs.YthcafnmagidpiaaDoorW.PrintLast Go.Proofs.YthcafnmagidpiaaDoor.Hlp Go.Proofs.YthcafnmagidpiaaDoor.MFnVtTokensr
set_option linter.unusedVariables false

def kinds (xs : List S48) : List Int := xs.map (·.f0)
def texts (xs : List S48) : List ByteArray := xs.map (·.f1)
theorem w64k {x : Int} (h1 : 0 ≤ x) (h2 : x ≤ 14) : wrap64 x = x := w64 (by omega) (by omega)
theorem door_l (xs : List S48) (hx : ∀ x ∈ xs, 0 ≤ x.f0 ∧ x.f0 ≤ 14) (hl : xs.length ≤ 10000) : ∀ (d i : Nat) (A : List Int) (B : List ByteArray), i + d = xs.length → A.length = i → B.length = i →
    Ev (fun k => dbus_DoorTokens.l0 k A B xs (xs.length : Int) (i : Int)) (A ++ kinds (xs.drop i), B ++ texts (xs.drop i)) := by
  intro d
  induction d with
  | zero =>
    intro i A B hd hA hB
    rw [List.drop_eq_nil_of_le (by omega)]
    refine Ev.step (f := fun _ => some (A ++ kinds [], B ++ texts [])) (fun k => ?_) (Ev.now _)
    simp only [dbus_DoorTokens.l0]
    rw [if_neg (by omega)]
    simp [kinds, texts]
  | succ d ih =>
    intro i A B hd hA hB
    have hi : i < xs.length := by omega
    have hg : rd_T48 xs (i : Int) = xs[i] := by
      unfold rd_T48
      rw [Int.toNat_natCast, List.getD_eq_getElem?_getD, List.getElem?_eq_getElem hi]
      rfl
    obtain ⟨h1, h2⟩ := hx _ (List.getElem_mem hi)
    have := ih (i + 1) (A ++ [xs[i].f0]) (B ++ [xs[i].f1]) (by omega) (by simp [hA]) (by simp [hB])
    rw [List.drop_eq_getElem_cons hi]
    have e1 : A ++ kinds (xs[i] :: xs.drop (i + 1)) = A ++ [xs[i].f0] ++ kinds (xs.drop (i + 1)) := by rw [List.append_assoc]; rfl
    have e2 : B ++ texts (xs[i] :: xs.drop (i + 1)) = B ++ [xs[i].f1] ++ texts (xs.drop (i + 1)) := by rw [List.append_assoc]; rfl
    rw [e1, e2]
    refine Ev.step (fun k => ?_) this
    simp only [dbus_DoorTokens.l0]
    rw [if_pos (by omega), if_pos (by omega), if_pos (by omega), Option.bind_some, if_pos (by simp only [List.length_cons, List.length_nil]; omega), Option.bind_some, if_pos (by simp only [List.length_cons, List.length_nil]; omega), hg, w64k h1 h2, w64 (by omega) (by omega)]
    rfl
theorem Same.all : ∀ {ys : List S26} {xs : List S48}, Same ys xs → ys.length = xs.length ∧ (∀ x ∈ xs, 0 ≤ x.f0 ∧ x.f0 ≤ 14) ∧ ∀ (i : Nat) (h : i < ys.length) (h2 : i < xs.length), Eq1 ys[i] xs[i]
  | [], [], _ => ⟨rfl, fun x h => (by cases h), fun i h => absurd h (Nat.not_lt_zero _)⟩
  | y :: ys, x :: xs, ⟨h1, h2⟩ => by
    obtain ⟨a1, a2, a3⟩ := Same.all h2
    refine ⟨by simp [a1], fun z hz => ?_, fun i h h2 => ?_⟩
    · rcases List.mem_cons.1 hz with rfl | hz
      · exact ⟨h1.2.1, h1.2.2.1⟩
      · exact a2 z hz
    · cases i with
      | zero => exact h1
      | succ i => exact a3 i (by simpa using h) (by simpa using h2)
  | [], _ :: _, h => h.elim
  | _ :: _, [], h => h.elim
/-- The door's answer. -/
theorem vt_f (s : ByteArray) {rest : List S48} (hs : s.size ≤ 9000) (h : Lex (bl s) rest) (hk : ∀ x ∈ rest, 0 ≤ x.f0 ∧ x.f0 ≤ 14) (hl : rest.length ≤ 10000) : Ev (fun k => impl_VtTokens.f k s) (kinds rest, texts rest) := by
  have h1 : Ev (fun k => dbus_varLex.f k s) rest := Ev.congr (fun k => by unfold dbus_varLex.f; rw [if_pos (by omega)]; rfl) h.all
  have h2 := door_l rest hk hl rest.length 0 [] [] (by omega) rfl rfl
  have h3 : Ev (fun k => dbus_DoorTokens.f k s) (kinds rest, texts rest) := Ev.bind h1 (by simpa using h2)
  exact Ev.bind h3 (Ev.now _)
end Go.Proofs.YthcafnmagidpiaaDoor.MFnVtTokensz
