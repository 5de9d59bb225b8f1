-- Texts of this session, several in one.
import Derived.Test.YthcafnmagidpiaaDoorHlpJ
import Derived.Test.YthcafnmagidpiaaDoorMFnVtTokensJoinx17
/- Complete types of signatures as lists of bytes, in plain Lean: what a complete type is, with how many arrays, brackets and dict entries may still stand in it. -/
namespace Go.Proofs.YthcafnmagidpiaaDoor.SgT
open Go
set_option linter.unusedVariables false

/-- The letters of the basic types. -/
def basicC (c : UInt8) : Bool := c == 121 || c == 98 || c == 110 || c == 113 || c == 105 || c == 117 || c == 120 || c == 116 || c == 100 || c == 115 || c == 111 || c == 103 || c == 104
/-- A type of one letter. -/
def oneC (c : UInt8) : Bool := basicC c || c == 118

/-- One complete type, in at most n steps. -/
def TF : Nat → Int → Int → Int → List UInt8 → Prop
  | 0, _, _, _, _ => False
  | n + 1, A, B, E, l => 0 ≤ A ∧ 0 ≤ B ∧ 0 ≤ E ∧
    ((∃ c, oneC c = true ∧ l = [c]) ∨ (∃ x, TF n (A - 1) B E x ∧ l = 97 :: x) ∨
     (∃ c x, basicC c = true ∧ TF n (A - 1) B (E - 1) x ∧ l = 97 :: 123 :: c :: (x ++ [125])) ∨
     (∃ xs : List (List UInt8), xs ≠ [] ∧ (∀ x ∈ xs, TF n A (B - 1) E x) ∧ l = 40 :: (xs.flatten ++ [41])))
def T (A B E : Int) (l : List UInt8) : Prop := ∃ n, TF n A B E l

theorem TF.succ {n : Nat} : ∀ {A B E : Int} {l : List UInt8}, TF n A B E l → TF (n + 1) A B E l := by
  induction n with
  | zero => intro A B E l h; exact h.elim
  | succ n ih =>
    intro A B E l h
    obtain ⟨h1, h2, h3, h⟩ := h
    refine ⟨h1, h2, h3, ?_⟩
    rcases h with h | ⟨x, hx, e⟩ | ⟨c, x, hc, hx, e⟩ | ⟨xs, hn, hx, e⟩
    · exact .inl h
    · exact .inr (.inl ⟨x, ih hx, e⟩)
    · exact .inr (.inr (.inl ⟨c, x, hc, ih hx, e⟩))
    · exact .inr (.inr (.inr ⟨xs, hn, fun x h => ih (hx x h), e⟩))
theorem TF.le {n m : Nat} (h : n ≤ m) {A B E : Int} {l : List UInt8} (t : TF n A B E l) : TF m A B E l := by
  induction h with
  | refl => exact t
  | step _ ih => exact ih.succ
theorem T.pos {A B E : Int} {l : List UInt8} (t : T A B E l) : 0 ≤ A ∧ 0 ≤ B ∧ 0 ≤ E := by
  obtain ⟨n, t⟩ := t
  cases n with
  | zero => exact t.elim
  | succ n => exact ⟨t.1, t.2.1, t.2.2.1⟩
theorem T.one {A B E : Int} (hA : 0 ≤ A) (hB : 0 ≤ B) (hE : 0 ≤ E) {c : UInt8} (h : oneC c = true) : T A B E [c] := ⟨1, hA, hB, hE, .inl ⟨c, h, rfl⟩⟩
theorem T.arr {A B E : Int} (hA : 0 ≤ A) (hB : 0 ≤ B) (hE : 0 ≤ E) {x : List UInt8} (t : T (A - 1) B E x) : T A B E (97 :: x) := by
  obtain ⟨n, t⟩ := t
  exact ⟨n + 1, hA, hB, hE, .inr (.inl ⟨x, t, rfl⟩)⟩
theorem T.dict {A B E : Int} (hA : 0 ≤ A) (hB : 0 ≤ B) (hE : 0 ≤ E) {c : UInt8} (h : basicC c = true) {x : List UInt8} (t : T (A - 1) B (E - 1) x) : T A B E (97 :: 123 :: c :: (x ++ [125])) := by
  obtain ⟨n, t⟩ := t
  exact ⟨n + 1, hA, hB, hE, .inr (.inr (.inl ⟨c, x, h, t, rfl⟩))⟩
/-- Steps that serve for all of a list. -/
theorem T.all {A B E : Int} : ∀ {xs : List (List UInt8)}, (∀ x ∈ xs, T A B E x) → ∃ n, ∀ x ∈ xs, TF n A B E x
  | [], _ => ⟨0, fun _ h => by cases h⟩
  | x :: xs, h => by
    obtain ⟨n, hn⟩ := T.all (fun y hy => h y (List.mem_cons_of_mem _ hy))
    obtain ⟨m, hm⟩ := h x List.mem_cons_self
    refine ⟨max n m, fun y hy => ?_⟩
    rcases List.mem_cons.mp hy with rfl | hy
    · exact hm.le (Nat.le_max_right _ _)
    · exact (hn y hy).le (Nat.le_max_left _ _)
theorem T.str {A B E : Int} (hA : 0 ≤ A) (hB : 0 ≤ B) (hE : 0 ≤ E) {xs : List (List UInt8)} (hn : xs ≠ []) (h : ∀ x ∈ xs, T A (B - 1) E x) : T A B E (40 :: (xs.flatten ++ [41])) := by
  obtain ⟨n, t⟩ := T.all h
  exact ⟨n + 1, hA, hB, hE, .inr (.inr (.inr ⟨xs, hn, t, rfl⟩))⟩
/-- One of the four. -/
theorem T.cases {A B E : Int} {l : List UInt8} (t : T A B E l) : 0 ≤ A ∧ 0 ≤ B ∧ 0 ≤ E ∧
    ((∃ c, oneC c = true ∧ l = [c]) ∨ (∃ x, T (A - 1) B E x ∧ l = 97 :: x) ∨
     (∃ c x, basicC c = true ∧ T (A - 1) B (E - 1) x ∧ l = 97 :: 123 :: c :: (x ++ [125])) ∨
     (∃ xs : List (List UInt8), xs ≠ [] ∧ (∀ x ∈ xs, T A (B - 1) E x) ∧ l = 40 :: (xs.flatten ++ [41]))) := by
  obtain ⟨n, t⟩ := t
  cases n with
  | zero => exact t.elim
  | succ n =>
    obtain ⟨h1, h2, h3, h⟩ := t
    refine ⟨h1, h2, h3, ?_⟩
    rcases h with h | ⟨x, hx, e⟩ | ⟨c, x, hc, hx, e⟩ | ⟨xs, hn, hx, e⟩
    · exact .inl h
    · exact .inr (.inl ⟨x, ⟨n, hx⟩, e⟩)
    · exact .inr (.inr (.inl ⟨c, x, hc, ⟨n, hx⟩, e⟩))
    · exact .inr (.inr (.inr ⟨xs, hn, fun x h => ⟨n, hx x h⟩, e⟩))
/-- Induction over complete types. -/
theorem T.ind {P : Int → Int → Int → List UInt8 → Prop}
    (one : ∀ A B E c, 0 ≤ A → 0 ≤ B → 0 ≤ E → oneC c = true → P A B E [c])
    (arr : ∀ A B E x, 0 ≤ A → 0 ≤ B → 0 ≤ E → T (A - 1) B E x → P (A - 1) B E x → P A B E (97 :: x))
    (dict : ∀ A B E c x, 0 ≤ A → 0 ≤ B → 0 ≤ E → basicC c = true → T (A - 1) B (E - 1) x → P (A - 1) B (E - 1) x → P A B E (97 :: 123 :: c :: (x ++ [125])))
    (str : ∀ A B E (xs : List (List UInt8)), 0 ≤ A → 0 ≤ B → 0 ≤ E → xs ≠ [] → (∀ x ∈ xs, T A (B - 1) E x) → (∀ x ∈ xs, P A (B - 1) E x) → P A B E (40 :: (xs.flatten ++ [41])))
    {A B E : Int} {l : List UInt8} (t : T A B E l) : P A B E l := by
  obtain ⟨n, t⟩ := t
  induction n generalizing A B E l with
  | zero => exact t.elim
  | succ n ih =>
    obtain ⟨h1, h2, h3, h⟩ := t
    rcases h with ⟨c, hc, rfl⟩ | ⟨x, hx, rfl⟩ | ⟨c, x, hc, hx, rfl⟩ | ⟨xs, hn, hx, rfl⟩
    · exact one A B E c h1 h2 h3 hc
    · exact arr A B E x h1 h2 h3 ⟨n, hx⟩ (ih hx)
    · exact dict A B E c x h1 h2 h3 hc ⟨n, hx⟩ (ih hx)
    · exact str A B E xs h1 h2 h3 hn (fun x h => ⟨n, hx x h⟩) (fun x h => ih (hx x h))
theorem one_ascii : ∀ c : UInt8, oneC c = true → c.toNat < 128 ∧ c ≠ 97 ∧ c ≠ 40 ∧ c ≠ 41 ∧ c ≠ 123 ∧ c ≠ 125 := by
  intro c h
  simp only [oneC, basicC, Bool.or_eq_true, beq_iff_eq] at h
  rcases h with (((((((((((((h | h) | h) | h) | h) | h) | h) | h) | h) | h) | h) | h) | h) | h) <;> subst h <;> decide
/-- A type begins with a letter, 'a' or a bracket. -/
theorem T.head {A B E : Int} {l : List UInt8} (t : T A B E l) : ∃ c r, l = c :: r ∧ c ≠ 123 ∧ c ≠ 41 ∧ c ≠ 125 := by
  obtain ⟨_, _, _, h⟩ := t.cases
  rcases h with ⟨c, hc, rfl⟩ | ⟨x, hx, rfl⟩ | ⟨c, x, hc, hx, rfl⟩ | ⟨xs, hn, hx, rfl⟩
  · obtain ⟨_, _, _, h41, h123, h125⟩ := one_ascii c hc
    exact ⟨c, [], rfl, h123, h41, h125⟩
  · exact ⟨97, x, rfl, by decide, by decide, by decide⟩
  · exact ⟨97, _, rfl, by decide, by decide, by decide⟩
  · exact ⟨40, _, rfl, by decide, by decide, by decide⟩
theorem T.len {A B E : Int} {l : List UInt8} (t : T A B E l) : 0 < l.length := by
  obtain ⟨c, r, rfl, _⟩ := t.head
  simp
/-- More room does no harm. -/
theorem T.more {A B E : Int} {l : List UInt8} (t : T A B E l) : ∀ {A' B' E' : Int}, A ≤ A' → B ≤ B' → E ≤ E' → T A' B' E' l := by
  refine T.ind (P := fun A B E l => ∀ {A' B' E' : Int}, A ≤ A' → B ≤ B' → E ≤ E' → T A' B' E' l) ?_ ?_ ?_ ?_ t
  · intro A B E c h1 h2 h3 hc A' B' E' a b e; exact T.one (by omega) (by omega) (by omega) hc
  · intro A B E x h1 h2 h3 _ ih A' B' E' a b e; exact T.arr (by omega) (by omega) (by omega) (ih (by omega) (by omega) (by omega))
  · intro A B E c x h1 h2 h3 hc _ ih A' B' E' a b e; exact T.dict (by omega) (by omega) (by omega) hc (ih (by omega) (by omega) (by omega))
  · intro A B E xs h1 h2 h3 hn _ ih A' B' E' a b e; exact T.str (by omega) (by omega) (by omega) hn (fun x hx => ih x hx (by omega) (by omega) (by omega))
/-- Dict entries stand in arrays: their number needs no bound of its own. -/
theorem T.entries {A B E : Int} {l : List UInt8} (t : T A B E l) : ∀ {E' : Int}, A ≤ E' → T A B E' l := by
  refine T.ind (P := fun A B E l => ∀ {E' : Int}, A ≤ E' → T A B E' l) ?_ ?_ ?_ ?_ t
  · intro A B E c h1 h2 h3 hc E' e; exact T.one h1 h2 (by omega) hc
  · intro A B E x h1 h2 h3 _ ih E' e; exact T.arr h1 h2 (by omega) (ih (by omega))
  · intro A B E c x h1 h2 h3 hc _ ih E' e; exact T.dict h1 h2 (by omega) hc (ih (by omega))
  · intro A B E xs h1 h2 h3 hn _ ih E' e; exact T.str h1 h2 (by omega) hn (fun x hx => ih x hx e)
end Go.Proofs.YthcafnmagidpiaaDoor.SgT

/- The reference's reader of complete types says what the plain notion says: how long the first complete type of a text is, 0 if there is none. -/
namespace Go.Proofs.YthcafnmagidpiaaDoor.MFnVtTokensJoins
open Go Go.RowKit Go.Proofs.YthcafnmagidpiaaDoor.MFnVtTokensJoin Go.Proofs.YthcafnmagidpiaaDoorW.PrintWords Go.Proofs.YthcafnmagidpiaaDoorW.PrintLast Go.Proofs.YthcafnmagidpiaaDoor.Hlp Go.Proofs.YthcafnmagidpiaaDoor.SgT
set_option linter.unusedVariables false

theorem bl_drop (s : ByteArray) (p : Nat) : bl (s.extract p s.size) = (bl s).drop p := by
  rw [bl_extract]; exact List.take_of_length_le (by rw [List.length_drop, bl_len]; omega)
theorem size_drop (s : ByteArray) (p : Nat) : (s.extract p s.size).size = s.size - p := by
  rw [← bl_len, bl_drop, List.length_drop, bl_len]
theorem basic_fin : ∀ n : Fin 256, spec_Basic.f (n.val : Int) = some (basicC (UInt8.ofNat n.val)) := by decide +kernel
theorem basic_f (c : UInt8) : spec_Basic.f (c.toNat : Int) = some (basicC c) := by
  have := basic_fin ⟨c.toNat, c.toNat_lt⟩
  simpa using this
theorem bt_cons {s : ByteArray} {c : UInt8} {r : List UInt8} (h : bl s = c :: r) : bt s 0 = (c.toNat : Int) := by
  have := bt_getD s 0
  rw [h] at this
  exact this
theorem bt_drop {s : ByteArray} {p : Nat} {c : UInt8} {r : List UInt8} (h : (bl s).drop p = c :: r) : bt s (p : Int) = (c.toNat : Int) := by
  rw [bt_getD]
  have e : (bl s).getD p 0 = ((bl s).drop p).getD 0 0 := by simp [List.getD_eq_getElem?_getD]
  rw [e, h]; rfl
theorem wp3 (t : Nat) (h : t ≤ 1000000000) : wrap64 ((t : Int) + 3) = ((t + 3 : Nat) : Int) := w64 (by omega) (by omega)
theorem wp4 (t : Nat) (h : t ≤ 1000000000) : wrap64 ((t : Int) + 4) = ((t + 4 : Nat) : Int) := w64 (by omega) (by omega)
theorem num_eq {c : UInt8} (d : UInt8) : (c.toNat : Int) = (d.toNat : Int) ↔ c = d := by
  constructor
  · intro h; exact UInt8.toNat_inj.mp (by exact_mod_cast h)
  · intro h; rw [h]

section
theorem f_step (k : Nat) (s : ByteArray) (A B E : Int) : spec_Complete.f (k + 1) s A B E = spec_Complete.j0 k s A B E (decide (s.size = 0 ∨ A < 0 ∨ B < 0 ∨ E < 0)) := by
  simp only [spec_Complete.f]
  by_cases h0 : s.size = 0
  · rw [if_pos ((emp_iff s).mpr h0), decide_eq_true (.inl h0)]
  rw [if_neg (fun q => h0 ((emp_iff s).mp q))]
  by_cases hA : A < 0
  · rw [if_pos hA, decide_eq_true (.inr (.inl hA))]
  rw [if_neg hA]
  by_cases hB : B < 0
  · rw [if_pos hB, decide_eq_true (.inr (.inr (.inl hB)))]
  rw [if_neg hB]
  congr 1
  exact decide_eq_decide.mpr ⟨fun h => .inr (.inr (.inr h)), fun h => by rcases h with h | h | h | h <;> first | exact absurd h h0 | exact absurd h hA | exact absurd h hB | exact h⟩
theorem j0_bad (k : Nat) (s : ByteArray) (A B E : Int) : spec_Complete.j0 (k + 1) s A B E true = some 0 := by
  simp only [spec_Complete.j0]; exact if_pos trivial
theorem j0_step (k : Nat) {s : ByteArray} {c : UInt8} {r : List UInt8} (h : bl s = c :: r) (A B E : Int) : spec_Complete.j0 (k + 1) s A B E false = spec_Complete.j1 k s A B E (oneC c) := by
  simp only [spec_Complete.j0]
  have hz : 0 < s.size := by rw [← bl_len, h]; simp
  rw [if_neg (by decide), if_pos (by omega), bt_cons h, basic_f]
  show (if basicC c = true then _ else _) = _
  by_cases hb : basicC c = true
  · rw [if_pos hb]; simp [oneC, hb]
  · rw [if_neg hb]
    congr 1
    simp only [oneC, Bool.eq_false_iff.mpr hb, Bool.false_or]
    rw [Bool.eq_iff_iff, beq_iff_eq, beq_iff_eq]
    exact num_eq 118
theorem j1_one (k : Nat) (s : ByteArray) (A B E : Int) : spec_Complete.j1 (k + 1) s A B E true = some 1 := by
  simp only [spec_Complete.j1]; exact if_pos trivial
theorem j1_dict (k : Nat) {s : ByteArray} {r : List UInt8} (h : bl s = 97 :: 123 :: r) (A B E : Int) : spec_Complete.j1 (k + 1) s A B E false = spec_Complete.j2 k s A B E true := by
  simp only [spec_Complete.j1]
  have hz : s.size = r.length + 2 := by rw [← bl_len, h]; simp
  have h1 : bt s 1 = 123 := bt_drop (s := s) (p := 1) (c := 123) (r := r) (by rw [h]; rfl)
  rw [if_neg (by decide), if_pos (by omega), bt_cons h, if_pos (by rfl), if_pos (by omega), if_pos (by omega), h1]; rfl
theorem j1_other (k : Nat) {s : ByteArray} {c : UInt8} {r : List UInt8} (h : bl s = c :: r) (hn : ¬ (c = 97 ∧ ∃ q, r = 123 :: q)) (A B E : Int) : spec_Complete.j1 (k + 1) s A B E false = spec_Complete.j2 k s A B E false := by
  simp only [spec_Complete.j1]
  have hz : s.size = r.length + 1 := by rw [← bl_len, h]; simp
  rw [if_neg (by decide), if_pos (by omega), bt_cons h]
  by_cases hc : c = 97
  · rw [if_pos (show (c.toNat : Int) = 97 from (num_eq 97).mpr hc)]
    cases r with
    | nil => rw [if_neg (by simp at hz; omega)]
    | cons d q =>
      simp only [List.length_cons] at hz
      have h1 : bt s 1 = (d.toNat : Int) := bt_drop (s := s) (p := 1) (c := d) (r := q) (by rw [h]; rfl)
      rw [if_pos (by omega), if_pos (by omega), h1]
      congr 1
      rw [beq_eq_false_iff_ne]
      intro e
      exact hn ⟨hc, q, by rw [(num_eq 123).mp e]⟩
  · rw [if_neg (show ¬ (c.toNat : Int) = 97 from fun q => hc ((num_eq 97).mp q))]
theorem j3_bad (k : Nat) (s : ByteArray) (A B E : Int) : spec_Complete.j3 (k + 1) s A B E true = some 0 := by
  simp only [spec_Complete.j3]; exact if_pos trivial
theorem j2_short (k : Nat) {s : ByteArray} (h : s.size < 4) (A B E : Int) : spec_Complete.j2 (k + 1) s A B E true = spec_Complete.j3 k s A B E true := by
  simp only [spec_Complete.j2]
  rw [if_pos trivial, if_pos (by omega)]
theorem j2_long (k : Nat) {s : ByteArray} {c : UInt8} {r : List UInt8} (h : ¬ s.size < 4) (hc : (bl s).drop 2 = c :: r) (A B E : Int) : spec_Complete.j2 (k + 1) s A B E true = spec_Complete.j3 k s A B E (!basicC c) := by
  simp only [spec_Complete.j2]
  have h1 : bt s 2 = (c.toNat : Int) := bt_drop (s := s) (p := 2) hc
  rw [if_pos trivial, if_neg (by omega), if_pos (by omega), h1, basic_f]; rfl
end

/-- How long the first complete type is. -/
def Tells (s : ByteArray) (A B E : Int) (n : Nat) : Prop :=
  (∀ x rest, T A B E x → bl s = x ++ rest → n = x.length) ∧ (0 < n → n ≤ s.size ∧ T A B E ((bl s).take n))

theorem tells_none {s : ByteArray} {A B E : Int} (h : ∀ x rest, T A B E x → ¬ bl s = x ++ rest) : Tells s A B E 0 :=
  ⟨fun x rest t e => absurd e (h x rest t), fun q => absurd q (by omega)⟩

section
variable (M : Nat) (hM : M ≤ 1000000000)
def Claim (n : Nat) : Prop := ∀ s : ByteArray, s.size ≤ n → s.size ≤ 1000000000 → ∀ A B E : Int, -5 ≤ A → A ≤ 1000 → -5 ≤ B → B ≤ 1000 → -5 ≤ E → E ≤ 1000 → ∃ n : Nat, Ev (fun k => spec_Complete.f k s A B E) (n : Int) ∧ Tells s A B E n

theorem prefix_take {x rest l : List UInt8} (h : l = x ++ rest) : l.take x.length = x := by rw [h]; simp

/-- The fields of a struct, from a place on. -/
theorem loop (N : Nat) (ih : Claim N) (s : ByteArray) (hN : s.size ≤ N + 1) (hs : s.size ≤ 1000000000) (A B E : Int) (hA : 0 ≤ A) (hA2 : A ≤ 1000) (hB : 0 ≤ B) (hB2 : B ≤ 1000) (hE : 0 ≤ E) (hE2 : E ≤ 1000) (d : Nat) :
    ∀ (pos : Nat) (xs : List (List UInt8)) (tail : List UInt8), s.size - pos = d → 1 ≤ pos → bl s = 40 :: (xs.flatten ++ tail) → pos = 1 + xs.flatten.length → (∀ x ∈ xs, T A (B - 1) E x) →
    ∃ n : Nat, Ev (fun k => spec_Complete.l0 k s A B E (pos : Int)) (n : Int) ∧
      (∀ ys rest, (∀ y ∈ ys, T A (B - 1) E y) → xs ++ ys ≠ [] → tail = ys.flatten ++ 41 :: rest → n = pos + ys.flatten.length + 1) ∧ (0 < n → n ≤ s.size ∧ T A B E ((bl s).take n)) := by
  induction d using Nat.strongRecOn with
  | _ d ihd =>
  intro pos xs tail hd hp hb hpos hxs
  have htail : (bl s).drop pos = tail := by
    rw [hb, hpos, Nat.add_comm, List.drop_succ_cons]; simp
  have hlen : s.size = pos + tail.length := by rw [← bl_len, hb, hpos]; simp; omega
  have hnil : xs = [] ↔ pos = 1 := by
    constructor
    · intro h; rw [h] at hpos; simpa using hpos
    · intro h
      cases xs with
      | nil => rfl
      | cons x r =>
        have := (hxs x List.mem_cons_self).len
        simp at hpos; omega
  cases tail with
  | nil =>
    simp only [List.length_nil] at hlen
    refine ⟨0, Ev.step (f := fun k => spec_Complete.j5 k s A B E (pos : Int) false) (fun k => ?_) (Ev.step (f := fun _ => some 0) (fun k => ?_) (Ev.now _)), ?_, fun q => absurd q (by omega)⟩
    · simp only [spec_Complete.l0]; rw [if_neg (by omega)]
    · simp only [spec_Complete.j5]
      rw [if_neg (by decide)]
      by_cases h1 : (pos : Int) > 1
      · rw [if_pos h1, if_neg (by omega)]
      · rw [if_neg h1]
    · intro ys rest _ _ e
      have := congrArg List.length e
      simp at this
  | cons c r =>
    simp only [List.length_cons] at hlen
    have hc : bt s (pos : Int) = (c.toNat : Int) := bt_drop htail
    have l0e : ∀ k, spec_Complete.l0 (k + 1) s A B E (pos : Int) = spec_Complete.j5 k s A B E (pos : Int) ((c.toNat : Int) != 41) := by
      intro k; simp only [spec_Complete.l0]; rw [if_pos (by omega), if_pos (by omega), hc]
    by_cases h41 : c = 41
    · subst h41
      by_cases h1 : pos = 1
      · refine ⟨0, Ev.step l0e (Ev.step (f := fun _ => some 0) (fun k => ?_) (Ev.now _)), ?_, fun q => absurd q (by omega)⟩
        · simp only [spec_Complete.j5]
          rw [if_neg (by decide), if_neg (by omega)]
        · intro ys rest hys hne e
          rw [hnil.mpr h1, List.nil_append] at hne
          cases ys with
          | nil => exact absurd rfl hne
          | cons y ys =>
            obtain ⟨c', r', rfl, _, h, _⟩ := (hys y List.mem_cons_self).head
            simp at e
            exact absurd e.1.symm h
      · refine ⟨pos + 1, Ev.step l0e (Ev.step (f := fun _ => some ((pos + 1 : Nat) : Int)) (fun k => ?_) (Ev.now _)), ?_, ?_⟩
        · simp only [spec_Complete.j5]
          rw [if_neg (by decide), if_pos (by omega), if_pos (by omega), w64 (by omega) (by omega)]; rfl
        · intro ys rest hys hne e
          cases ys with
          | nil => simp
          | cons y ys =>
            obtain ⟨c', r', rfl, _, h, _⟩ := (hys y List.mem_cons_self).head
            simp at e
            exact absurd e.1.symm h
        · intro _
          refine ⟨by omega, ?_⟩
          have e : (bl s).take (pos + 1) = 40 :: (xs.flatten ++ [41]) := by
            rw [hb, hpos, List.take_succ_cons, Nat.add_comm 1, List.take_append]
            simp [List.take_of_length_le]
          rw [e]
          exact T.str hA hB hE (fun q => h1 (hnil.mp q)) hxs
    · have hb41 : ((c.toNat : Int) != 41) = true := by
        rw [bne_iff_ne]; intro q; exact h41 ((num_eq 41).mp q)
      obtain ⟨t, ht, ht1, ht2⟩ := ih (s.extract pos s.size) (by rw [size_drop]; omega) (by rw [size_drop]; omega) A (B - 1) E (by omega) hA2 (by omega) (by omega) (by omega) hE2
      rw [bl_drop, htail] at ht1 ht2
      rw [size_drop] at ht2
      have wB : wrap64 (B - 1) = B - 1 := w64 (by omega) (by omega)
      have j5e : ∀ k, spec_Complete.j5 (k + 1) s A B E (pos : Int) ((c.toNat : Int) != 41) = (spec_Complete.f k (s.extract pos s.size) A (B - 1) E).bind fun t112 => (if t112 = 0 then (some 0) else (spec_Complete.l0 k s A B E (wrap64 ((pos : Int) + t112)))) := by
        intro k
        simp only [spec_Complete.j5]
        rw [if_pos hb41, if_pos (by omega), if_pos (by omega), wB, Int.toNat_natCast]
      by_cases hz : t = 0
      · subst hz
        refine ⟨0, Ev.step l0e (Ev.step j5e (Ev.bind ht (ev_ite_pos rfl (fun _ => rfl) (Ev.now _)))), ?_, fun q => absurd q (by omega)⟩
        intro ys rest hys hne e
        cases ys with
        | nil => simp at e; exact absurd e.1 h41
        | cons y ys =>
          have hy := hys y List.mem_cons_self
          have := ht1 y (ys.flatten ++ 41 :: rest) hy (by rw [e]; simp)
          have := hy.len
          omega
      · obtain ⟨ht3, ht4⟩ := ht2 (by omega)
        have hsz : t ≤ r.length + 1 := by omega
        have hx : (c :: r) = (c :: r).take t ++ (c :: r).drop t := (List.take_append_drop t _).symm
        obtain ⟨n, hn, hn1, hn2⟩ := ihd (s.size - (pos + t)) (by omega) (pos + t) (xs ++ [(c :: r).take t]) ((c :: r).drop t) rfl (by omega)
          (by rw [hb]; simp only [List.flatten_append, List.flatten_cons, List.flatten_nil, List.append_nil, List.append_assoc]; rw [← hx])
          (by simp only [List.flatten_append, List.flatten_cons, List.flatten_nil, List.append_nil, List.length_append, List.length_take, List.length_cons]; omega)
          (by intro x hx; rcases List.mem_append.mp hx with h | h
              · exact hxs x h
              · rw [List.mem_singleton.mp h]; exact ht4)
        have e2 : wrap64 ((pos : Int) + (t : Int)) = ((pos + t : Nat) : Int) := w64 (by omega) (by omega)
        refine ⟨n, Ev.step l0e (Ev.step j5e (Ev.bind ht (ev_ite_neg (by omega) (fun _ => rfl) ?_))), ?_, hn2⟩
        · rw [e2]; exact hn
        · intro ys rest hys hne e
          cases ys with
          | nil => simp at e; exact absurd e.1 h41
          | cons y ys =>
            have hy := hys y List.mem_cons_self
            have ey := ht1 y (ys.flatten ++ 41 :: rest) hy (by rw [e]; simp)
            have e3 : (c :: r).drop t = ys.flatten ++ 41 :: rest := by
              rw [e, ey]; simp
            have := hn1 ys rest (fun z hz => hys z (List.mem_cons_of_mem _ hz)) (by simp) e3
            rw [this]; simp; omega
end

/-- A fact that arithmetic does not see. -/
structure Hid (p : Prop) : Prop where
  mk' ::
  out' : p
set_option maxHeartbeats 1000000 in
theorem complete (N : Nat) : Claim N := by
  induction N with
  | zero =>
    intro s h0 hs A B E a1 a2 b1 b2 e1 e2
    have hz : s.size = 0 := by omega
    refine ⟨0, Ev.step (fun k => f_step k s A B E) ?_, tells_none ?_⟩
    · rw [decide_eq_true (.inl hz)]
      exact Ev.step (f := fun _ => some 0) (fun k => j0_bad k s A B E) (Ev.now _)
    · intro x rest t e
      have := t.len
      have h2 := congrArg List.length e
      rw [bl_len, List.length_append] at h2
      omega
  | succ N ih =>
    intro s h0 hs A B E a1 a2 b1 b2 e1 e2
    by_cases bad : s.size = 0 ∨ A < 0 ∨ B < 0 ∨ E < 0
    · refine ⟨0, Ev.step (fun k => f_step k s A B E) ?_, tells_none ?_⟩
      · rw [decide_eq_true bad]
        exact Ev.step (f := fun _ => some 0) (fun k => j0_bad k s A B E) (Ev.now _)
      · intro x rest t e
        have h1 := t.len
        have h2 := congrArg List.length e
        have h3 := t.pos
        rw [bl_len, List.length_append] at h2
        omega
    have hA : 0 ≤ A := by omega
    have hB : 0 ≤ B := by omega
    have hE : 0 ≤ E := by omega
    obtain ⟨c, r, hb⟩ : ∃ c r, bl s = c :: r := by
      cases h : bl s with
      | nil => have : s.size = 0 := by rw [← bl_len, h]; rfl
               omega
      | cons c r => exact ⟨c, r, rfl⟩
    have hlen : s.size = r.length + 1 := by rw [← bl_len, hb]; simp
    have up : ∀ n, Ev (fun k => spec_Complete.j1 k s A B E (oneC c)) n → Ev (fun k => spec_Complete.f k s A B E) n := by
      intro n h
      refine Ev.step (fun k => f_step k s A B E) ?_
      rw [decide_eq_false bad]
      exact Ev.step (fun k => j0_step k hb A B E) h
    have wA : Hid (wrap64 (A - 1) = A - 1) := Hid.mk' (w64 (by omega) (by omega))
    have wE : Hid (wrap64 (E - 1) = E - 1) := Hid.mk' (w64 (by omega) (by omega))
    cases ho : oneC c with
    | true =>
      rw [ho] at up
      obtain ⟨_, n97, n40, _, _, _⟩ := one_ascii c ho
      refine ⟨1, up _ (Ev.step (f := fun _ => some 1) (fun k => j1_one k s A B E) (Ev.now _)), ?_, ?_⟩
      · intro x rest t e
        rw [hb] at e
        obtain ⟨_, _, _, h⟩ := t.cases
        rcases h with ⟨c', hc, rfl⟩ | ⟨x, hx, rfl⟩ | ⟨c', x, hc, hx, rfl⟩ | ⟨xs, hn, hx, rfl⟩
        · rfl
        · simp at e; exact absurd e.1 n97
        · simp at e; exact absurd e.1 n97
        · simp at e; exact absurd e.1 n40
      · intro _
        refine ⟨by omega, ?_⟩
        rw [hb]
        exact T.one hA hB hE ho
    | false =>
      rw [ho] at up
      by_cases hd : c = 97 ∧ ∃ q, r = 123 :: q
      · obtain ⟨rfl, q, rfl⟩ := hd
        simp only [List.length_cons] at hlen
        have up2 : ∀ n, Ev (fun k => spec_Complete.j2 k s A B E true) n → Ev (fun k => spec_Complete.f k s A B E) n :=
          fun n h => up n (Ev.step (fun k => j1_dict k hb A B E) h)
        have only : ∀ x rest, T A B E x → bl s = x ++ rest → ∃ c' y, basicC c' = true ∧ T (A - 1) B (E - 1) y ∧ x = 97 :: 123 :: c' :: (y ++ [125]) ∧ q = c' :: (y ++ 125 :: rest) := by
          intro x rest t e
          rw [hb] at e
          obtain ⟨_, _, _, h⟩ := t.cases
          rcases h with ⟨c', hc, rfl⟩ | ⟨y, hy, rfl⟩ | ⟨c', y, hc, hy, rfl⟩ | ⟨xs, hn, hx, rfl⟩
          · simp at e; rw [← e.1] at hc; exact absurd hc (by decide)
          · obtain ⟨c2, r2, rfl, h123, _⟩ := hy.head
            simp at e; exact absurd e.1.symm h123
          · exact ⟨c', y, hc, hy, rfl, by simpa using e⟩
          · simp at e
        by_cases h4 : s.size < 4
        · refine ⟨0, up2 _ (Ev.step (fun k => j2_short k h4 A B E) (Ev.step (f := fun _ => some 0) (fun k => j3_bad k s A B E) (Ev.now _))), tells_none ?_⟩
          intro x rest t e
          obtain ⟨c', y, _, hy, _, rfl⟩ := only x rest t e
          have := hy.len
          simp at hlen; omega
        cases q with
        | nil => simp at hlen; omega
        | cons c2 q2 =>
          simp only [List.length_cons] at hlen
          have hdr : (bl s).drop 2 = c2 :: q2 := by rw [hb]; rfl
          have hdr3 : (bl s).drop 3 = q2 := by rw [hb]; rfl
          cases hbc : basicC c2 with
          | false =>
            refine ⟨0, up2 _ (Ev.step (fun k => j2_long k h4 hdr A B E) ?_), tells_none ?_⟩
            · rw [hbc]; exact Ev.step (f := fun _ => some 0) (fun k => j3_bad k s A B E) (Ev.now _)
            · intro x rest t e
              obtain ⟨c', y, hc', _, _, e2⟩ := only x rest t e
              injection e2 with e3 _
              rw [e3, hc'] at hbc; exact absurd hbc (by decide)
          | true =>
            obtain ⟨t, ht, ht1, ht2⟩ := ih (s.extract 3 s.size) (by rw [size_drop]; omega) (by rw [size_drop]; omega) (A - 1) B (E - 1) (by omega) (by omega) (by omega) b2 (by omega) (by omega)
            rw [bl_drop, hdr3] at ht1 ht2
            rw [size_drop] at ht2
            have up3 : ∀ n, Ev (fun k => (spec_Complete.f k (s.extract 3 s.size) (A - 1) B (E - 1)).bind fun t110 => (if t110 = 0 then (some 0) else (if (s.size : Int) < (wrap64 (t110 + 4)) then (some 0) else (if 0 ≤ (wrap64 (t110 + 3)) then (if (wrap64 (t110 + 3)) < (s.size : Int) then (if (bt s (wrap64 (t110 + 3))) = 125 then (some (wrap64 (t110 + 4))) else (some 0)) else (none)) else (none))))) n → Ev (fun k => spec_Complete.f k s A B E) n := by
              intro n h
              refine up2 n (Ev.step (fun k => j2_long k h4 hdr A B E) ?_)
              rw [hbc]
              refine Ev.step (fun k => ?_) h
              simp only [spec_Complete.j3]
              rw [Bool.not_true, if_neg (by decide), if_pos (by omega), wA.out', wE.out']
            by_cases hz : t = 0
            · subst hz
              refine ⟨0, up3 _ (Ev.bind ht (ev_ite_pos rfl (fun _ => rfl) (Ev.now _))), tells_none ?_⟩
              intro x rest t e
              obtain ⟨c', y, _, hy, _, e2⟩ := only x rest t e
              injection e2 with e3 e4
              have := ht1 y (125 :: rest) hy (by rw [e4])
              have := hy.len
              omega
            · obtain ⟨ht3, ht4⟩ := ht2 (by omega)
              have htb : t ≤ 1000000000 := by omega
              by_cases hsh : s.size < t + 4
              · refine ⟨0, up3 _ (Ev.bind ht (ev_ite_neg (by omega) (fun _ => rfl) (ev_ite_pos (by rw [wp4 t htb]; omega) (fun _ => rfl) (Ev.now _)))), tells_none ?_⟩
                intro x rest tt e
                obtain ⟨c', y, _, hy, _, e2⟩ := only x rest tt e
                injection e2 with e3 e4
                have h5 := ht1 y (125 :: rest) hy (by rw [e4])
                have h6 := congrArg List.length e4
                simp at h6; omega
              · obtain ⟨c5, r5, h5⟩ : ∃ c5 r5, q2.drop t = c5 :: r5 := by
                  cases h : q2.drop t with
                  | nil => have := congrArg List.length h; rw [List.length_drop] at this; simp at this; omega
                  | cons c5 r5 => exact ⟨c5, r5, rfl⟩
                have hdt : (bl s).drop (t + 3) = c5 :: r5 := by rw [hb]; simpa using h5
                have hbt : bt s (wrap64 ((t : Int) + 3)) = (c5.toNat : Int) := by rw [wp3 t htb]; exact bt_drop hdt
                by_cases h125 : c5 = 125
                · refine ⟨t + 4, up3 _ (Ev.bind ht (ev_ite_neg (by omega) (fun _ => rfl) (ev_ite_neg (by rw [wp4 t htb]; omega) (fun _ => rfl) (ev_ite_pos (by rw [wp3 t htb]; omega) (fun _ => rfl) (ev_ite_pos (by rw [wp3 t htb]; omega) (fun _ => rfl) (ev_ite_pos (by rw [hbt, h125]; rfl) (fun _ => rfl) (by rw [wp4 t htb]; exact Ev.now _))))))), ?_, ?_⟩
                  · intro x rest tt e
                    obtain ⟨c', y, _, hy, rfl, e2⟩ := only x rest tt e
                    injection e2 with e3 e4
                    have h6 := ht1 y (125 :: rest) hy (by rw [e4])
                    simp; omega
                  · intro _
                    refine ⟨by omega, ?_⟩
                    have e : (bl s).take (t + 4) = 97 :: 123 :: c2 :: (q2.take t ++ [125]) := by
                      rw [hb]
                      simp only [List.take_succ_cons]
                      have h7 : q2.take (t + 1) = q2.take t ++ [125] := by
                        rw [List.take_add, h5, h125]; rfl
                      rw [h7]
                    rw [e]
                    exact T.dict hA hB hE hbc ht4
                · refine ⟨0, up3 _ (Ev.bind ht (ev_ite_neg (by omega) (fun _ => rfl) (ev_ite_neg (by rw [wp4 t htb]; omega) (fun _ => rfl) (ev_ite_pos (by rw [wp3 t htb]; omega) (fun _ => rfl) (ev_ite_pos (by rw [wp3 t htb]; omega) (fun _ => rfl) (ev_ite_neg (by rw [hbt]; exact fun z => h125 ((num_eq 125).mp z)) (fun _ => rfl) (Ev.now _))))))), tells_none ?_⟩
                  intro x rest tt e
                  obtain ⟨c', y, _, hy, _, e2⟩ := only x rest tt e
                  injection e2 with e3 e4
                  have h6 := ht1 y (125 :: rest) hy (by rw [e4])
                  rw [e4, h6] at h5
                  simp at h5
                  exact h125 h5.1.symm
      · have up2 : ∀ n, Ev (fun k => spec_Complete.j2 k s A B E false) n → Ev (fun k => spec_Complete.f k s A B E) n :=
          fun n h => up n (Ev.step (fun k => j1_other k hb hd A B E) h)
        by_cases h97 : c = 97
        · subst h97
          have hdr1 : (bl s).drop 1 = r := by rw [hb]; rfl
          obtain ⟨t, ht, ht1, ht2⟩ := ih (s.extract 1 s.size) (by rw [size_drop]; omega) (by rw [size_drop]; omega) (A - 1) B E (by omega) (by omega) (by omega) b2 (by omega) e2
          rw [bl_drop, hdr1] at ht1 ht2
          rw [size_drop] at ht2
          have up3 : ∀ n, Ev (fun k => (spec_Complete.f k (s.extract 1 s.size) (A - 1) B E).bind fun t111 => (if t111 > 0 then (some (wrap64 (t111 + 1))) else (some 0))) n → Ev (fun k => spec_Complete.f k s A B E) n := by
            intro n h
            refine up2 n (Ev.step (fun k => ?_) h)
            simp only [spec_Complete.j2]
            rw [if_neg (by decide), if_pos (by omega), bt_cons hb, if_pos (by rfl), if_pos (by omega), wA.out']
          have only : ∀ x rest, T A B E x → bl s = x ++ rest → ∃ y, T (A - 1) B E y ∧ x = 97 :: y ∧ r = y ++ rest := by
            intro x rest t e
            rw [hb] at e
            obtain ⟨_, _, _, h⟩ := t.cases
            rcases h with ⟨c', hc, rfl⟩ | ⟨y, hy, rfl⟩ | ⟨c', y, hc, hy, rfl⟩ | ⟨xs, hn, hx, rfl⟩
            · simp at e; rw [← e.1] at hc; exact absurd hc (by decide)
            · exact ⟨y, hy, rfl, by simpa using e⟩
            · exact absurd ⟨rfl, _, (List.cons.inj e).2⟩ hd
            · simp at e
          by_cases hz : 0 < t
          · obtain ⟨ht3, ht4⟩ := ht2 hz
            refine ⟨t + 1, up3 _ (Ev.bind ht (ev_ite_pos (by omega) (fun _ => rfl) (by rw [w64 (by omega) (by omega)]; exact Ev.now _))), ?_, ?_⟩
            · intro x rest tt e
              obtain ⟨y, hy, rfl, e2⟩ := only x rest tt e
              have := ht1 y rest hy e2
              simp; omega
            · intro _
              refine ⟨by omega, ?_⟩
              rw [hb, List.take_succ_cons]
              exact T.arr hA hB hE ht4
          · refine ⟨0, up3 _ (Ev.bind ht (ev_ite_neg (by omega) (fun _ => rfl) (Ev.now _))), tells_none ?_⟩
            intro x rest tt e
            obtain ⟨y, hy, rfl, e2⟩ := only x rest tt e
            have := ht1 y rest hy e2
            have := hy.len
            omega
        · by_cases h40 : c = 40
          · subst h40
            obtain ⟨n, hn, hn1, hn2⟩ := loop N ih s h0 hs A B E hA a2 hB b2 hE e2 (s.size - 1) 1 [] r rfl (by omega) (by rw [hb]; rfl) rfl (fun x hx => by cases hx)
            refine ⟨n, up2 _ (Ev.step (fun k => ?_) hn), ?_, hn2⟩
            · simp only [spec_Complete.j2]
              rw [if_neg (by decide), if_pos (by omega), bt_cons hb, if_neg (by decide), if_pos (by rfl)]; rfl
            · intro x rest t e
              rw [hb] at e
              obtain ⟨_, _, _, h⟩ := t.cases
              rcases h with ⟨c', hc, rfl⟩ | ⟨y, hy, rfl⟩ | ⟨c', y, hc, hy, rfl⟩ | ⟨xs, hne, hx, rfl⟩
              · simp at e; rw [← e.1] at hc; exact absurd hc (by decide)
              · simp at e
              · simp at e
              · have := hn1 xs rest hx (by simpa using hne) (by simpa using e)
                rw [this]; simp; omega
          · refine ⟨0, up2 _ (Ev.step (f := fun _ => some 0) (fun k => ?_) (Ev.now _)), tells_none ?_⟩
            · simp only [spec_Complete.j2]
              rw [if_neg (by decide), if_pos (by omega), bt_cons hb, if_neg (show ¬ (c.toNat : Int) = 97 from fun z => h97 ((num_eq 97).mp z)), if_neg (show ¬ (c.toNat : Int) = 40 from fun z => h40 ((num_eq 40).mp z))]
            · intro x rest t e
              rw [hb] at e
              obtain ⟨_, _, _, h⟩ := t.cases
              rcases h with ⟨c', hc, rfl⟩ | ⟨y, hy, rfl⟩ | ⟨c', y, hc, hy, rfl⟩ | ⟨xs, hne, hx, rfl⟩
              · simp at e; rw [← e.1, ho] at hc; exact absurd hc (by decide)
              · simp at e; exact h97 e.1
              · simp at e; exact h97 e.1
              · simp at e; exact h40 e.1

end Go.Proofs.YthcafnmagidpiaaDoor.MFnVtTokensJoins

/- The package's reader of complete types: it takes each complete type (the plain notion), and, of a text without "()" and "{v", nothing else. -/
namespace Go.Proofs.YthcafnmagidpiaaDoor.MFnVtTokensJoini
open Go Go.RowKit Go.Proofs.YthcafnmagidpiaaDoor.MFnVtTokensJoin Go.Proofs.YthcafnmagidpiaaDoorW.PrintWords Go.Proofs.YthcafnmagidpiaaDoorW.PrintLast Go.Proofs.YthcafnmagidpiaaDoor.Hlp Go.Proofs.YthcafnmagidpiaaDoor.SgT
set_option linter.unusedVariables false

theorem bl_drop (s : ByteArray) (p : Nat) : bl (s.extract p s.size) = (bl s).drop p := by
  rw [bl_extract]; exact List.take_of_length_le (by rw [List.length_drop, bl_len]; omega)
theorem size_drop (s : ByteArray) (p : Nat) : (s.extract p s.size).size = s.size - p := by
  rw [← bl_len, bl_drop, List.length_drop, bl_len]
theorem num_eq {c : UInt8} (d : UInt8) : (c.toNat : Int) = (d.toNat : Int) ↔ c = d := by
  constructor
  · intro h; exact UInt8.toNat_inj.mp (by exact_mod_cast h)
  · intro h; rw [h]
theorem bt_drop {s : ByteArray} {p : Nat} {c : UInt8} {r : List UInt8} (h : (bl s).drop p = c :: r) : bt s (p : Int) = (c.toNat : Int) := by
  rw [bt_getD]
  have e : (bl s).getD p 0 = ((bl s).drop p).getD 0 0 := by simp [List.getD_eq_getElem?_getD]
  rw [e, h]; rfl
theorem bt_cons {s : ByteArray} {c : UInt8} {r : List UInt8} (h : bl s = c :: r) : bt s 0 = (c.toNat : Int) := bt_drop (s := s) (p := 0) (by rw [List.drop_zero]; exact h)
theorem simple_fin : ∀ n : Fin 256, dbus_validSingle.simple (n.val : Int) = oneC (UInt8.ofNat n.val) := by decide +kernel
theorem simple_f (c : UInt8) : dbus_validSingle.simple (c.toNat : Int) = oneC c := by
  have := simple_fin ⟨c.toNat, c.toNat_lt⟩
  simpa using this
theorem drop_lt {s : ByteArray} {p : Nat} {c : UInt8} {r : List UInt8} (h : (bl s).drop p = c :: r) : p < s.size := by
  have := congrArg List.length h
  rw [List.length_drop, bl_len] at this
  simp at this; omega
theorem drop_succ {s : ByteArray} {p : Nat} {c : UInt8} {r : List UInt8} (h : (bl s).drop p = c :: r) : (bl s).drop (p + 1) = r := by
  rw [← List.drop_drop, h]; rfl

/-! ### The search for the mark that closes -/
section
variable (l r : UInt8) (hl : l.toNat < 128) (hr : r.toNat < 128) (hlr : l ≠ r)

/-- Over this piece the search goes on as it came. -/
def Skip (l r : UInt8) (y : List UInt8) : Prop := ∀ (s : ByteArray) (pos : Nat) (z : List UInt8) (n : Int), (bl s).drop pos = y ++ z → 1 ≤ n → n + y.length ≤ 4000000000 →
  ∀ res, Ev (fun k => dbus_findMatching.l0 k s (l.toNat : Int) (r.toNat : Int) n (pos + y.length)) res → Ev (fun k => dbus_findMatching.l0 k s (l.toNat : Int) (r.toNat : Int) n pos) res
/-- One round at a byte of ASCII. -/
theorem round {s : ByteArray} {pos : Nat} {c : UInt8} {z : List UInt8} (h : (bl s).drop pos = c :: z) (hc : c.toNat < 128) (L R n : Int) (k : Nat) :
    dbus_findMatching.l0 (k + 1) s L R n pos = if dbus_findMatching.step (c.toNat : Int) L R n = 0 then some (pos : Int) else dbus_findMatching.l0 k s L R (dbus_findMatching.step (c.toNat : Int) L R n) (pos + 1) := by
  have hp := drop_lt h
  have hb := bt_drop h
  obtain ⟨h1, h2⟩ := dec_lo s pos hp (by rw [hb]; omega)
  simp only [dbus_findMatching.l0]
  rw [if_pos hp, h1, h2, hb]
theorem step_l (l r : UInt8) (n : Int) (h1 : -9000000000 ≤ n) (h2 : n ≤ 9000000000) : dbus_findMatching.step (l.toNat : Int) (l.toNat : Int) (r.toNat : Int) n = n + 1 := by
  unfold dbus_findMatching.step; rw [if_pos rfl, w64 (by omega) (by omega)]
theorem step_r {l r : UInt8} (hlr : l ≠ r) (n : Int) (h1 : -9000000000 ≤ n) (h2 : n ≤ 9000000000) : dbus_findMatching.step (r.toNat : Int) (l.toNat : Int) (r.toNat : Int) n = n - 1 := by
  unfold dbus_findMatching.step; rw [if_neg (fun q => hlr ((num_eq l).mp q).symm), if_pos rfl, w64 (by omega) (by omega)]
theorem step_o {l r c : UInt8} (h1 : c ≠ l) (h2 : c ≠ r) (n : Int) : dbus_findMatching.step (c.toNat : Int) (l.toNat : Int) (r.toNat : Int) n = n := by
  unfold dbus_findMatching.step; rw [if_neg (fun q => h1 ((num_eq l).mp q)), if_neg (fun q => h2 ((num_eq r).mp q))]
theorem Skip.one {l r c : UInt8} (hc : c.toNat < 128) (h1 : c ≠ l) (h2 : c ≠ r) : Skip l r [c] := by
  intro s pos z n h hn hb res hres
  refine Ev.step (f := fun k => dbus_findMatching.l0 k s (l.toNat : Int) (r.toNat : Int) n (pos + 1)) (fun k => ?_) hres
  rw [round h hc, step_o h1 h2, if_neg (by omega)]
theorem Skip.nil (l r : UInt8) : Skip l r [] := fun s pos z n h hn hb res hres => hres
theorem Skip.app {l r : UInt8} {x y : List UInt8} (hx : Skip l r x) (hy : Skip l r y) : Skip l r (x ++ y) := by
  intro s pos z n h hn hb res hres
  rw [List.length_append] at hb hres
  refine hx s pos (y ++ z) n (by rw [h, List.append_assoc]) hn (by omega) res ?_
  refine hy s (pos + x.length) z n ?_ hn (by omega) res (by rw [Nat.add_assoc]; exact hres)
  rw [← List.drop_drop, h, List.append_assoc]; simp
theorem Skip.wrap {l r : UInt8} (hl : l.toNat < 128) (hr : r.toNat < 128) (hlr : l ≠ r) {y : List UInt8} (hy : Skip l r y) : Skip l r (l :: (y ++ [r])) := by
  intro s pos z n h hn hb res hres
  simp only [List.length_cons, List.length_append, List.length_nil] at hb hres
  have h' : (bl s).drop pos = l :: (y ++ r :: z) := by rw [h]; simp
  refine Ev.step (f := fun k => dbus_findMatching.l0 k s (l.toNat : Int) (r.toNat : Int) (n + 1) (pos + 1)) (fun k => ?_) ?_
  · rw [round h' hl, step_l l r n (by omega) (by omega), if_neg (by omega)]
  · have h2 : (bl s).drop (pos + 1) = y ++ r :: z := drop_succ h'
    refine hy s (pos + 1) (r :: z) (n + 1) h2 (by omega) (by omega) res ?_
    have h3 : (bl s).drop (pos + 1 + y.length) = r :: z := by rw [← List.drop_drop, h2]; simp
    refine Ev.step (f := fun k => dbus_findMatching.l0 k s (l.toNat : Int) (r.toNat : Int) n (pos + 1 + y.length + 1)) (fun k => ?_) ?_
    · rw [round h3 hr, step_r hlr (n + 1) (by omega) (by omega), show n + 1 - 1 = n by omega, if_neg (by omega)]
    · rw [show pos + 1 + y.length + 1 = pos + (y.length + (0 + 1) + 1) by omega]; exact hres
theorem Skip.flat {l r : UInt8} : ∀ {xs : List (List UInt8)}, (∀ x ∈ xs, Skip l r x) → Skip l r xs.flatten
  | [], _ => Skip.nil l r
  | x :: xs, h => by rw [List.flatten_cons]; exact Skip.app (h x List.mem_cons_self) (Skip.flat (fun y hy => h y (List.mem_cons_of_mem _ hy)))
end

/-- Complete types are gone over by both searches. -/
theorem skips {A B E : Int} {x : List UInt8} (t : T A B E x) : Skip 123 125 x ∧ Skip 40 41 x := by
  refine T.ind (P := fun A B E x => Skip 123 125 x ∧ Skip 40 41 x) ?_ ?_ ?_ ?_ t
  · intro A B E c _ _ _ hc
    obtain ⟨ha, _, h40, h41, h123, h125⟩ := one_ascii c hc
    exact ⟨Skip.one ha h123 h125, Skip.one ha h40 h41⟩
  · intro A B E x _ _ _ _ ih
    exact ⟨Skip.app (x := [97]) (Skip.one (by decide) (by decide) (by decide)) ih.1, Skip.app (x := [97]) (Skip.one (by decide) (by decide) (by decide)) ih.2⟩
  · intro A B E c x _ _ _ hc _ ih
    obtain ⟨ha, _, h40, h41, h123, h125⟩ := one_ascii c (by simp [oneC, hc])
    refine ⟨?_, ?_⟩
    · refine Skip.app (x := [97]) (y := 123 :: (c :: x ++ [125])) (Skip.one (by decide) (by decide) (by decide)) (Skip.wrap (by decide) (by decide) (by decide) (Skip.app (x := [c]) (Skip.one ha h123 h125) ih.1))
    · refine Skip.app (x := [97]) (y := 123 :: c :: (x ++ [125])) (Skip.one (by decide) (by decide) (by decide)) (Skip.app (x := [123]) (y := c :: (x ++ [125])) (Skip.one (by decide) (by decide) (by decide)) (Skip.app (x := [c]) (y := x ++ [125]) (Skip.one ha h40 h41) (Skip.app ih.2 (Skip.one (by decide) (by decide) (by decide)))))
  · intro A B E xs _ _ _ _ _ ih
    refine ⟨?_, Skip.wrap (by decide) (by decide) (by decide) (Skip.flat (fun x hx => (ih x hx).2))⟩
    exact Skip.app (x := [40]) (y := xs.flatten ++ [41]) (Skip.one (by decide) (by decide) (by decide)) (Skip.app (Skip.flat (fun x hx => (ih x hx).1)) (Skip.one (by decide) (by decide) (by decide)))
/-- The mark that closes the first one is found. -/
theorem found {l r : UInt8} (hl : l.toNat < 128) (hr : r.toNat < 128) (hlr : l ≠ r) {s : ByteArray} {y z : List UInt8} (h : bl s = l :: (y ++ r :: z)) (hs : s.size ≤ 1000000000) (hy : Skip l r y) :
    Ev (fun k => dbus_findMatching.f k s (l.toNat : Int) (r.toNat : Int)) ((y.length + 1 : Nat) : Int) := by
  have hlen : s.size = y.length + z.length + 2 := by rw [← bl_len, h]; simp; omega
  have h0 : (bl s).drop 0 = l :: (y ++ r :: z) := by rw [List.drop_zero]; exact h
  unfold dbus_findMatching.f
  refine Ev.step (f := fun k => dbus_findMatching.l0 k s (l.toNat : Int) (r.toNat : Int) 1 1) (fun k => ?_) ?_
  · rw [round h0 hl, step_l l r 0 (by omega) (by omega), if_neg (by omega)]; rfl
  · have h1 : (bl s).drop 1 = y ++ r :: z := drop_succ h0
    refine hy s 1 (r :: z) 1 h1 (by omega) (by omega) _ ?_
    have h3 : (bl s).drop (1 + y.length) = r :: z := by rw [← List.drop_drop, h1]; simp
    refine Ev.step (f := fun _ => some ((y.length + 1 : Nat) : Int)) (fun k => ?_) (Ev.now _)
    rw [round h3 hr, step_r hlr 1 (by omega) (by omega), if_pos (by omega)]
    congr 1; omega
/-- The search ends; where it finds a place, the closing mark stands there. -/
theorem search {l r : UInt8} (hl : l.toNat < 128) (hr : r.toNat < 128) (hlr : l ≠ r) (s : ByteArray) (hs : s.size ≤ 1000000000) (d : Nat) : ∀ (pos : Nat) (n : Int), s.size - pos = d → 1 ≤ n → n ≤ (pos : Int) + 1 → pos ≤ s.size →
    ∃ i : Int, Ev (fun k => dbus_findMatching.l0 k s (l.toNat : Int) (r.toNat : Int) n pos) i ∧ (i = -1 ∨ ∃ (j : Nat) (z : List UInt8), i = (j : Int) ∧ pos ≤ j ∧ j < s.size ∧ (bl s).drop j = r :: z) := by
  induction d using Nat.strongRecOn with
  | _ d ih =>
  intro pos n hd h1 h2 hp
  cases hc : (bl s).drop pos with
  | nil =>
    have : ¬ pos < s.size := by
      have := congrArg List.length hc
      rw [List.length_drop, bl_len] at this
      simp at this; omega
    refine ⟨-1, Ev.step (f := fun _ => some (-1)) (fun k => ?_) (Ev.now _), .inl rfl⟩
    simp only [dbus_findMatching.l0]; rw [if_neg this]
  | cons c z =>
    have hlt := drop_lt hc
    have hb := bt_drop hc
    by_cases ha : c.toNat < 128
    · by_cases e1 : c = l
      · subst e1
        obtain ⟨i, hi, hq⟩ := ih (s.size - (pos + 1)) (by omega) (pos + 1) (n + 1) rfl (by omega) (by omega) (by omega)
        refine ⟨i, Ev.step (fun k => ?_) hi, ?_⟩
        · rw [round hc ha, step_l c r n (by omega) (by omega), if_neg (by omega)]
        · rcases hq with h | ⟨j, z, e, h3, h4, h5⟩
          · exact .inl h
          · exact .inr ⟨j, z, e, by omega, h4, h5⟩
      · by_cases e2 : c = r
        · subst e2
          by_cases e3 : n = 1
          · subst e3
            refine ⟨(pos : Int), Ev.step (f := fun _ => some (pos : Int)) (fun k => ?_) (Ev.now _), .inr ⟨pos, z, rfl, Nat.le_refl _, hlt, hc⟩⟩
            rw [round hc ha, step_r hlr 1 (by omega) (by omega), if_pos (by omega)]
          · obtain ⟨i, hi, hq⟩ := ih (s.size - (pos + 1)) (by omega) (pos + 1) (n - 1) rfl (by omega) (by omega) (by omega)
            refine ⟨i, Ev.step (fun k => ?_) hi, ?_⟩
            · rw [round hc ha, step_r hlr n (by omega) (by omega), if_neg (by omega)]
            · rcases hq with h | ⟨j, z, e, h3, h4, h5⟩
              · exact .inl h
              · exact .inr ⟨j, z, e, by omega, h4, h5⟩
        · obtain ⟨i, hi, hq⟩ := ih (s.size - (pos + 1)) (by omega) (pos + 1) n rfl (by omega) (by omega) (by omega)
          refine ⟨i, Ev.step (fun k => ?_) hi, ?_⟩
          · rw [round hc ha, step_o e1 e2, if_neg (by omega)]
          · rcases hq with h | ⟨j, z, e, h3, h4, h5⟩
            · exact .inl h
            · exact .inr ⟨j, z, e, by omega, h4, h5⟩
    · obtain ⟨g1, g2⟩ := dec_hi s pos hlt (by rw [hb]; omega)
      have st : dbus_findMatching.step ((Utf8.decode s pos).1 : Int) (l.toNat : Int) (r.toNat : Int) n = n := by
        unfold dbus_findMatching.step; rw [if_neg (by omega), if_neg (by omega)]
      by_cases hle : pos + (Utf8.decode s pos).2 ≤ s.size
      · obtain ⟨i, hi, hq⟩ := ih (s.size - (pos + (Utf8.decode s pos).2)) (by omega) (pos + (Utf8.decode s pos).2) n rfl (by omega) (by omega) hle
        refine ⟨i, Ev.step (fun k => ?_) hi, ?_⟩
        · simp only [dbus_findMatching.l0]; rw [if_pos hlt, st, if_neg (by omega)]
        · rcases hq with h | ⟨j, z, e, h3, h4, h5⟩
          · exact .inl h
          · exact .inr ⟨j, z, e, by omega, h4, h5⟩
      · refine ⟨-1, Ev.step (f := fun k => dbus_findMatching.l0 k s (l.toNat : Int) (r.toNat : Int) n (pos + (Utf8.decode s pos).2)) (fun k => ?_) (Ev.step (f := fun _ => some (-1)) (fun k => ?_) (Ev.now _)), .inl rfl⟩
        · simp only [dbus_findMatching.l0]; rw [if_pos hlt, st, if_neg (by omega)]
        · simp only [dbus_findMatching.l0]; rw [if_neg (by omega)]
/-- From the first mark on. -/
theorem search0 {l r : UInt8} (hl : l.toNat < 128) (hr : r.toNat < 128) (hlr : l ≠ r) (s : ByteArray) (hs : s.size ≤ 1000000000) {q : List UInt8} (h : bl s = l :: q) :
    ∃ i : Int, Ev (fun k => dbus_findMatching.f k s (l.toNat : Int) (r.toNat : Int)) i ∧ (i = -1 ∨ ∃ (j : Nat) (z : List UInt8), i = (j : Int) ∧ 1 ≤ j ∧ j < s.size ∧ (bl s).drop j = r :: z) := by
  have h0 : (bl s).drop 0 = l :: q := by rw [List.drop_zero]; exact h
  obtain ⟨i, hi, hq⟩ := search hl hr hlr s hs (s.size - 1) 1 1 rfl (by omega) (by omega) (drop_lt h0)
  refine ⟨i, ?_, hq⟩
  unfold dbus_findMatching.f
  refine Ev.step (fun k => ?_) hi
  rw [round h0 hl, step_l l r 0 (by omega) (by omega), if_neg (by omega)]; rfl

/-! ### The reader takes complete types -/
theorem ok_of {a t d : Int} (h1 : a ≤ 32) (h2 : t ≤ 32) (h3 : d ≤ 32) : dbus_validSingle.ok a t d = true := by simp [dbus_validSingle.ok, h1, h2, h3]
theorem g_one {s : ByteArray} {c : UInt8} {q : List UInt8} (h : bl s = c :: q) (hc : oneC c = true) {a t d : Int} (h1 : a ≤ 32) (h2 : t ≤ 32) (h3 : d ≤ 32) : Ev (fun k => dbus_validSingle.g k s a t d) (none, s.extract 1 s.size) := by
  have hz : ¬ s.size = 0 := by rw [← bl_len, h]; simp
  refine Ev.step (f := fun _ => some (none, s.extract 1 s.size)) (fun k => ?_) (Ev.now _)
  simp only [dbus_validSingle.g]
  rw [if_neg hz, ok_of h1 h2 h3, if_neg (by decide), bt_cons h, simple_f, hc, if_pos rfl]
theorem g_arr {s : ByteArray} {q : List UInt8} (h : bl s = 97 :: q) (hq : ∀ r, q ≠ 123 :: r) {a t d : Int} (h1 : a ≤ 32) (h2 : t ≤ 32) (h3 : d ≤ 32) (k : Nat) :
    dbus_validSingle.g (k + 1) s a t d = dbus_validSingle.g k (s.extract 1 s.size) (wrap64 (a + 1)) t d := by
  have hz : s.size = q.length + 1 := by rw [← bl_len, h]; simp
  simp only [dbus_validSingle.g]
  rw [if_neg (by omega), ok_of h1 h2 h3, if_neg (by decide), bt_cons h, simple_f, show oneC 97 = false from by decide, if_neg (by decide), if_pos (by rfl)]
  cases q with
  | nil => simp only [List.length_nil] at hz; rw [if_neg (by omega)]
  | cons c r =>
    simp only [List.length_cons] at hz
    have hb : bt s 1 = (c.toNat : Int) := bt_drop (s := s) (p := 1) (by rw [h]; rfl)
    rw [if_pos (by omega), hb, if_neg (fun e => hq r (by rw [(num_eq 123).mp e]))]
theorem g_dict {s : ByteArray} {q : List UInt8} (h : bl s = 97 :: 123 :: q) {a t d : Int} (h1 : a ≤ 32) (h2 : t ≤ 32) (h3 : d ≤ 32) (k : Nat) :
    dbus_validSingle.g (k + 1) s a t d = (dbus_findMatching.f k (s.extract 1 s.size) 123 125).bind fun i => dbus_validSingle.dict k s a t d i := by
  have hz : s.size = q.length + 2 := by rw [← bl_len, h]; simp
  have hb : bt s 1 = 123 := bt_drop (s := s) (p := 1) (c := 123) (by rw [h]; rfl)
  simp only [dbus_validSingle.g]
  rw [if_neg (by omega), ok_of h1 h2 h3, if_neg (by decide), bt_cons h, simple_f, show oneC 97 = false from by decide, if_neg (by decide), if_pos (by rfl), if_pos (by omega), hb, if_pos rfl]
theorem g_open {s : ByteArray} {q : List UInt8} (h : bl s = 40 :: q) {a t d : Int} (h1 : a ≤ 32) (h2 : t ≤ 32) (h3 : d ≤ 32) (k : Nat) :
    dbus_validSingle.g (k + 1) s a t d = (dbus_findMatching.f k s 40 41).bind fun i => dbus_validSingle.open k s a t d i := by
  have hz : s.size = q.length + 1 := by rw [← bl_len, h]; simp
  simp only [dbus_validSingle.g]
  rw [if_neg (by omega), ok_of h1 h2 h3, if_neg (by decide), bt_cons h, simple_f, show oneC 40 = false from by decide, if_neg (by decide), if_neg (by decide), if_pos (by rfl)]

theorem l_nil (k : Nat) {u : ByteArray} (h : u.size = 0) (r : ByteArray) (a t d : Int) : dbus_validSingle.l (k + 1) none u r a t d = some (none, r) := by
  simp only [dbus_validSingle.l]; rw [if_neg (by decide), if_pos h]
theorem l_more (k : Nat) {u : ByteArray} (h : ¬ u.size = 0) (r : ByteArray) (a t d : Int) : dbus_validSingle.l (k + 1) none u r a t d = (dbus_validSingle.g k u a (wrap64 (t + 1)) d).bind fun x => dbus_validSingle.l k x.1 x.2 r a t d := by
  simp only [dbus_validSingle.l]; rw [if_neg (by decide), if_neg h]

/-- A complete type is taken, and what stands behind it is left. -/
theorem takes {A B E : Int} {x : List UInt8} (tt : T A B E x) : ∀ (s : ByteArray) (a t d : Int) (rest : List UInt8), A = 32 - a → B = 32 - t → E = 32 - d → 0 ≤ a → 0 ≤ t → 0 ≤ d → bl s = x ++ rest → s.size ≤ 1000000000 →
    Ev (fun k => dbus_validSingle.g k s a t d) (none, s.extract x.length s.size) := by
  refine T.ind (P := fun A B E x => ∀ (s : ByteArray) (a t d : Int) (rest : List UInt8), A = 32 - a → B = 32 - t → E = 32 - d → 0 ≤ a → 0 ≤ t → 0 ≤ d → bl s = x ++ rest → s.size ≤ 1000000000 →
    Ev (fun k => dbus_validSingle.g k s a t d) (none, s.extract x.length s.size)) ?_ ?_ ?_ ?_ tt
  · intro A B E c hA hB hE hc s a t d rest eA eB eE _ _ _ hb hs
    exact g_one (q := rest) hb hc (by omega) (by omega) (by omega)
  · intro A B E x hA hB hE hx ih s a t d rest eA eB eE ha ht hd hb hs
    obtain ⟨c, r, rfl, h123, _⟩ := hx.head
    have hlen : s.size = r.length + 2 + rest.length := by rw [← bl_len, hb]; simp; omega
    have hb1 : bl (s.extract 1 s.size) = (c :: r) ++ rest := by rw [bl_drop, hb]; rfl
    have := ih (s.extract 1 s.size) (a + 1) t d rest (by omega) eB eE (by omega) ht hd hb1 (by rw [size_drop]; omega)
    refine Ev.step (fun k => g_arr (q := c :: (r ++ rest)) hb (fun q e => by simp at e; exact h123 e.1) (by omega) (by omega) (by omega) k) ?_
    rw [w64 (by omega) (by omega)]
    have e : (s.extract 1 s.size).extract (c :: r).length (s.extract 1 s.size).size = s.extract (97 :: c :: r).length s.size := by
      apply bl_ext; rw [bl_drop, bl_drop, bl_drop, List.drop_drop]; congr 1; simp; omega
    rw [e] at this
    exact this
  · intro A B E c x hA hB hE hc hx ih s a t d rest eA eB eE ha ht hd hb hs
    obtain ⟨hp1, hp2, hp3⟩ := hx.pos
    have hb' : bl s = 97 :: 123 :: (c :: x ++ 125 :: rest) := by rw [hb]; simp
    have hlen : s.size = x.length + 4 + rest.length := by rw [← bl_len, hb]; simp; omega
    have hb1 : bl (s.extract 1 s.size) = 123 :: ((c :: x) ++ 125 :: rest) := by rw [bl_drop, hb']; rfl
    have hoc : oneC c = true := by simp [oneC, hc]
    obtain ⟨hca, _, _, _, h123, h125⟩ := one_ascii c hoc
    have hf := found (l := 123) (r := 125) (by decide) (by decide) (by decide) hb1 (by rw [size_drop]; omega) (Skip.app (x := [c]) (Skip.one hca h123 h125) (skips hx).1)
    simp only [List.length_cons] at hf
    refine Ev.step (fun k => g_dict hb' (by omega) (by omega) (by omega) k) (Ev.bind (a := ((x.length + 1 + 1 : Nat) : Int)) hf ?_)
    have e1 : (((x.length + 1 + 1 : Nat) : Int) + 1).toNat = x.length + 3 := by omega
    have e2 : (((x.length + 1 + 1 : Nat) : Int) + 1 + 1).toNat = x.length + 4 := by omega
    have hu : bl (s.extract 2 (x.length + 3)) = c :: x := by
      rw [bl_extract, hb', show x.length + 3 - 2 = x.length + 1 by omega]; simp
    have hus : (s.extract 2 (x.length + 3)).size = x.length + 1 := by rw [← bl_len, hu]; rfl
    have hk : bl ((s.extract 2 (x.length + 3)).extract 0 1) = [c] := by rw [bl_extract, hu]; rfl
    have hv : bl ((s.extract 2 (x.length + 3)).extract 1 (s.extract 2 (x.length + 3)).size) = x := by rw [bl_drop, hu]; rfl
    have k1 := g_one (q := []) (a := a + 1) (t := t) (d := d + 1) hk hoc (by omega) (by omega) (by omega)
    have k2 := ih ((s.extract 2 (x.length + 3)).extract 1 (s.extract 2 (x.length + 3)).size) (a + 1) t (d + 1) [] (by omega) eB (by omega) (by omega) ht (by omega) (by rw [hv]; simp) (by rw [size_drop, hus]; omega)
    refine Ev.step (f := fun k => (dbus_validSingle.g k ((s.extract 2 (x.length + 3)).extract 0 1) (a + 1) t (d + 1)).bind fun x_1 =>
        if x_1.1.isSome = true then some (x_1.1, ⟨#[]⟩) else
        (dbus_validSingle.g k ((s.extract 2 (x.length + 3)).extract 1 (s.extract 2 (x.length + 3)).size) (a + 1) t (d + 1)).bind fun y =>
        if y.1.isSome = true then some (y.1, ⟨#[]⟩) else
        if y.2.size = 0 then some (none, s.extract (x.length + 4) s.size)
        else some (dbus_validSingle.er (s.extract 2 (x.length + 3)) ⟨#[116, 111, 111, 32, 109, 97, 110, 121, 32, 116, 121, 112, 101, 115, 32, 105, 110, 32, 100, 105, 99, 116]⟩, ⟨#[]⟩)) (fun k => ?_) ?_
    · simp only [dbus_validSingle.dict]
      rw [if_neg (by omega), if_pos ⟨by omega, by omega, by omega⟩, e1, e2, if_neg (by omega), w64 (x := a + 1) (by omega) (by omega), w64 (x := d + 1) (by omega) (by omega)]
    · refine Ev.bind k1 (ev_ite_neg (show ¬ (false = true) by decide) (fun _ => rfl) (Ev.bind k2 (ev_ite_neg (show ¬ (false = true) by decide) (fun _ => rfl) (ev_ite_pos ?_ (fun _ => rfl) ?_))))
      · show (((s.extract 2 (x.length + 3)).extract 1 (s.extract 2 (x.length + 3)).size).extract x.length ((s.extract 2 (x.length + 3)).extract 1 (s.extract 2 (x.length + 3)).size).size).size = 0
        rw [size_drop, size_drop, hus]; omega
      · rw [show (97 :: 123 :: c :: (x ++ [125])).length = x.length + 4 by simp]; exact Ev.now _
  · intro A B E xs hA hB hE hn hx ih s a t d rest eA eB eE ha ht hd hb hs
    have hb' : bl s = 40 :: (xs.flatten ++ 41 :: rest) := by rw [hb]; simp
    have hlen : s.size = xs.flatten.length + 2 + rest.length := by rw [← bl_len, hb]; simp; omega
    have hf := found (l := 40) (r := 41) (by decide) (by decide) (by decide) hb' hs (Skip.flat (fun x h => (skips (hx x h)).2))
    have ht31 : t + 1 ≤ 32 := by
      cases xs with
      | nil => exact absurd rfl hn
      | cons x xs => have := (hx x List.mem_cons_self).pos; omega
    refine Ev.step (fun k => g_open hb' (by omega) (by omega) (by omega) k) (Ev.bind (a := ((xs.flatten.length + 1 : Nat) : Int)) hf ?_)
    have e1 : (((xs.flatten.length + 1 : Nat) : Int)).toNat = xs.flatten.length + 1 := by omega
    have e2 : (((xs.flatten.length + 1 : Nat) : Int) + 1).toNat = xs.flatten.length + 2 := by omega
    refine Ev.step (f := fun k => dbus_validSingle.l k none (s.extract 1 (xs.flatten.length + 1)) (s.extract (xs.flatten.length + 2) s.size) a t d) (fun k => ?_) ?_
    · simp only [dbus_validSingle.open]
      rw [if_neg (by omega), if_pos ⟨by omega, by omega, by omega⟩, e1, e2]
    · have hu : bl (s.extract 1 (xs.flatten.length + 1)) = xs.flatten := by rw [bl_extract, hb', Nat.add_sub_cancel]; simp
      have hus : (s.extract 1 (xs.flatten.length + 1)).size ≤ 1000000000 := by rw [← bl_len, hu]; omega
      have er : (40 :: (xs.flatten ++ [41])).length = xs.flatten.length + 2 := by simp
      rw [er]
      generalize s.extract (xs.flatten.length + 2) s.size = rr
      generalize s.extract 1 (xs.flatten.length + 1) = u at hu hus ⊢
      clear hf hb hb' hlen e1 e2 er hn
      induction xs generalizing u with
      | nil => exact Ev.step (f := fun _ => some (none, rr)) (fun k => l_nil k (by rw [← bl_len, hu]; rfl) rr a t d) (Ev.now _)
      | cons x xs ihx =>
        have hxl := (hx x List.mem_cons_self).len
        rw [List.flatten_cons] at hu
        refine Ev.step (fun k => l_more k (by rw [← bl_len, hu, List.length_append]; omega) rr a t d) ?_
        have h1 := ih x List.mem_cons_self u a (t + 1) d xs.flatten eA (by omega) eE ha (by omega) hd hu hus
        rw [w64 (x := t + 1) (by omega) (by omega)]
        refine Ev.bind h1 ?_
        refine ihx (fun y hy => hx y (List.mem_cons_of_mem _ hy)) (fun y hy => ih y (List.mem_cons_of_mem _ hy)) (u.extract x.length u.size) ?_ (by rw [size_drop]; omega)
        rw [bl_drop, hu]; simp
end Go.Proofs.YthcafnmagidpiaaDoor.MFnVtTokensJoini

/- The package's reader of complete types comes to an end at every text, leaves less than there was, and takes, of a text without "()" and "{v", complete types alone. -/
namespace Go.Proofs.YthcafnmagidpiaaDoor.MFnVtTokensJoint
open Go Go.RowKit Go.Proofs.YthcafnmagidpiaaDoor.MFnVtTokensJoin Go.Proofs.YthcafnmagidpiaaDoorW.PrintWords Go.Proofs.YthcafnmagidpiaaDoorW.PrintLast Go.Proofs.YthcafnmagidpiaaDoor.Hlp Go.Proofs.YthcafnmagidpiaaDoor.SgT Go.Proofs.YthcafnmagidpiaaDoor.MFnVtTokensJoini
set_option linter.unusedVariables false

/-- A text without "()" and "{v". -/
def NP (l : List UInt8) : Prop := ∀ p q, l ≠ p ++ 40 :: 41 :: q ∧ l ≠ p ++ 123 :: 118 :: q
theorem NP.mid {a b c : List UInt8} (h : NP (a ++ b ++ c)) : NP b := by
  intro p q
  refine ⟨fun e => (h (a ++ p) (q ++ c)).1 ?_, fun e => (h (a ++ p) (q ++ c)).2 ?_⟩
  · rw [e]; simp
  · rw [e]; simp
theorem NP.tail {c : UInt8} {b : List UInt8} (h : NP (c :: b)) : NP b := NP.mid (a := [c]) (b := b) (c := []) (by simpa using h)
theorem NP.pre {b c : List UInt8} (h : NP (b ++ c)) : NP b := NP.mid (a := []) (b := b) (c := c) (by simpa using h)
theorem NP.suf {a b : List UInt8} (h : NP (a ++ b)) : NP b := NP.mid (a := a) (b := b) (c := []) (by simpa using h)

/-- What the reader comes to. -/
def Res (s : ByteArray) (a t d : Int) (e : Option (TypeId × Value)) (rem : ByteArray) : Prop :=
  (e = none → rem.size < s.size) ∧ (e = none → NP (bl s) → ∃ x, T (32 - a) (32 - t) (32 - d) x ∧ bl s = x ++ bl rem)
theorem Res.err {s : ByteArray} {a t d : Int} {v : TypeId × Value} {rem : ByteArray} : Res s a t d (some v) rem := ⟨fun h => by (cases h), fun h => by (cases h)⟩
def Tot (N : Nat) : Prop := ∀ s : ByteArray, s.size ≤ N → s.size ≤ 1000000000 → ∀ a t d : Int, 0 ≤ a → a ≤ 1000 → 0 ≤ t → t ≤ 1000 → 0 ≤ d → d ≤ 1000 → ∃ e rem, Ev (fun k => dbus_validSingle.g k s a t d) (e, rem) ∧ Res s a t d e rem
theorem isSome_err (v : TypeId × Value) : (some v).isSome = true := rfl
theorem ok_le {a t d : Int} (h : dbus_validSingle.ok a t d = true) : a ≤ 32 ∧ t ≤ 32 ∧ d ≤ 32 := by
  simpa [dbus_validSingle.ok, and_assoc] using h

/-- The fields of a struct. -/
theorem fields (N : Nat) (ih : Tot N) (r : ByteArray) (a t d : Int) (ha : 0 ≤ a) (ha2 : a ≤ 32) (ht : 0 ≤ t) (ht2 : t ≤ 32) (hd : 0 ≤ d) (hd2 : d ≤ 32) (m : Nat) : ∀ u : ByteArray, u.size = m → u.size ≤ N → u.size ≤ 1000000000 →
    ∃ e rem, Ev (fun k => dbus_validSingle.l k none u r a t d) (e, rem) ∧ (e = none → rem = r) ∧ (e = none → NP (bl u) → ∃ xs : List (List UInt8), (∀ x ∈ xs, T (32 - a) (32 - t - 1) (32 - d) x) ∧ bl u = xs.flatten) := by
  induction m using Nat.strongRecOn with
  | _ m ihm =>
  intro u hu hN hs
  by_cases h0 : u.size = 0
  · refine ⟨none, r, Ev.step (f := fun _ => some (none, r)) (fun k => l_nil k h0 r a t d) (Ev.now _), fun _ => rfl, fun _ _ => ⟨[], fun x h => by (cases h), ?_⟩⟩
    exact List.eq_nil_of_length_eq_zero h0
  obtain ⟨e, rem, he, hr⟩ := ih u hN hs a (t + 1) d ha (by omega) (by omega) (by omega) hd (by omega)
  cases e with
  | some v =>
    refine ⟨some v, ⟨#[]⟩, Ev.step (fun k => l_more k h0 r a t d) ?_, fun h => by (cases h), fun h => by (cases h)⟩
    rw [w64 (x := t + 1) (by omega) (by omega)]
    refine Ev.bind he (Ev.step (f := fun _ => some (some v, ⟨#[]⟩)) (fun k => ?_) (Ev.now _))
    simp only [dbus_validSingle.l]; exact if_pos rfl
  | none =>
    have hlt := hr.1 rfl
    obtain ⟨e2, rem2, he2, h3, h4⟩ := ihm rem.size (by omega) rem rfl (by omega) (by omega)
    refine ⟨e2, rem2, Ev.step (fun k => l_more k h0 r a t d) ?_, h3, fun hn hp => ?_⟩
    · rw [w64 (x := t + 1) (by omega) (by omega)]
      exact Ev.bind he he2
    · obtain ⟨x, hx, hb⟩ := hr.2 rfl hp
      rw [hb] at hp
      obtain ⟨xs, hxs, hb2⟩ := h4 hn hp.suf
      refine ⟨x :: xs, fun y hy => ?_, by rw [hb, hb2]; rfl⟩
      rcases List.mem_cons.mp hy with rfl | hy
      · rw [show 32 - t - 1 = 32 - (t + 1) by omega]; exact hx
      · exact hxs y hy

theorem one_of {A B E : Int} {x q : List UInt8} {c : UInt8} (tt : T A B E x) (h : [c] = x ++ q) : oneC c = true := by
  obtain ⟨_, _, _, hh⟩ := tt.cases
  rcases hh with ⟨c', hc, rfl⟩ | ⟨y, hy, rfl⟩ | ⟨c', y, hc, hy, rfl⟩ | ⟨xs, hn, hx, rfl⟩
  · simp at h; rw [h.1]; exact hc
  · have := hy.len
    have h2 := congrArg List.length h
    simp only [List.length_append, List.length_cons, List.length_nil] at h2; omega
  · have h2 := congrArg List.length h
    simp only [List.length_append, List.length_cons, List.length_nil] at h2; omega
  · have h2 := congrArg List.length h
    simp only [List.length_append, List.length_cons, List.length_nil] at h2; omega

set_option maxHeartbeats 1000000 in
theorem tot (N : Nat) : Tot N := by
  induction N with
  | zero =>
    intro s h0 hs a t d _ _ _ _ _ _
    refine ⟨_, _, Ev.step (f := fun _ => some (dbus_validSingle.er s ⟨#[101, 109, 112, 116, 121, 32, 115, 105, 103, 110, 97, 116, 117, 114, 101]⟩, ⟨#[]⟩)) (fun k => ?_) (Ev.now _), Res.err⟩
    simp only [dbus_validSingle.g]; rw [if_pos (by omega)]
  | succ N ih =>
    intro s hN hs a t d ha ha2 ht ht2 hd hd2
    cases hb : bl s with
    | nil =>
      have h0 : s.size = 0 := by rw [← bl_len, hb]; rfl
      refine ⟨_, _, Ev.step (f := fun _ => some (dbus_validSingle.er s ⟨#[101, 109, 112, 116, 121, 32, 115, 105, 103, 110, 97, 116, 117, 114, 101]⟩, ⟨#[]⟩)) (fun k => ?_) (Ev.now _), Res.err⟩
      simp only [dbus_validSingle.g]; rw [if_pos h0]
    | cons c q =>
      have hlen : s.size = q.length + 1 := by rw [← bl_len, hb]; simp
      cases hok : dbus_validSingle.ok a t d with
      | false =>
        refine ⟨_, _, Ev.step (f := fun _ => some (dbus_validSingle.er s ⟨#[99, 111, 110, 116, 97, 105, 110, 101, 114, 32, 110, 101, 115, 116, 105, 110, 103, 32, 116, 111, 111, 32, 100, 101, 101, 112]⟩, ⟨#[]⟩)) (fun k => ?_) (Ev.now _), Res.err⟩
        simp only [dbus_validSingle.g]; rw [if_neg (by omega), hok, if_pos rfl]
      | true =>
        obtain ⟨o1, o2, o3⟩ := ok_le hok
        cases hoc : oneC c with
        | true =>
          refine ⟨_, _, g_one hb hoc o1 o2 o3, fun _ => by rw [size_drop]; omega, fun _ _ => ⟨[c], T.one (by omega) (by omega) (by omega) hoc, ?_⟩⟩
          rw [bl_drop, hb]; rfl
        | false =>
          by_cases h97 : c = 97
          · subst h97
            by_cases hq : ∃ r, q = 123 :: r
            · obtain ⟨r, rfl⟩ := hq
              simp only [List.length_cons] at hlen
              have hb1 : bl (s.extract 1 s.size) = 123 :: r := by rw [bl_drop, hb]; rfl
              obtain ⟨i, hi, hi2⟩ := search0 (l := 123) (r := 125) (by decide) (by decide) (by decide) (s.extract 1 s.size) (by rw [size_drop]; omega) hb1
              have up : ∀ v, Ev (fun k => dbus_validSingle.dict k s a t d i) v → Ev (fun k => dbus_validSingle.g k s a t d) v :=
                fun v h => Ev.step (fun k => g_dict hb o1 o2 o3 k) (Ev.bind (a := i) hi h)
              rcases hi2 with hi2 | ⟨j, z, rfl, hj1, hj2, hj3⟩
              · refine ⟨_, _, up _ (Ev.step (f := fun _ => some (dbus_validSingle.er s ⟨#[117, 110, 109, 97, 116, 99, 104, 101, 100, 32, 39, 123, 39]⟩, ⟨#[]⟩)) (fun k => ?_) (Ev.now _)), Res.err⟩
                simp only [dbus_validSingle.dict]; rw [if_pos hi2]
              · rw [size_drop] at hj2
                rw [bl_drop, List.drop_drop] at hj3
                have e1 : ((j : Int) + 1).toNat = j + 1 := by omega
                have e2 : ((j : Int) + 1 + 1).toNat = j + 2 := by omega
                have hu : bl (s.extract 2 (j + 1)) = ((bl s).drop 2).take (j - 1) := by rw [bl_extract]; congr 1
                have hus : (s.extract 2 (j + 1)).size = j - 1 := by rw [← bl_len, hu, List.length_take, List.length_drop, bl_len]; omega
                have cut : bl s = 97 :: 123 :: (bl (s.extract 2 (j + 1)) ++ 125 :: bl (s.extract (j + 2) s.size)) := by
                  have h5 : (bl s).drop (j + 1) = 125 :: (bl s).drop (j + 2) := by
                    rw [show j + 1 = 1 + j by omega, hj3, ← drop_succ hj3]
                    congr 2; omega
                  have h6 : (bl s).drop 2 = ((bl s).drop 2).take (j - 1) ++ ((bl s).drop 2).drop (j - 1) := (List.take_append_drop _ _).symm
                  rw [List.drop_drop, show 2 + (j - 1) = j + 1 by omega, h5] at h6
                  rw [hu, bl_drop, ← h6, hb]; rfl
                have dq : ∀ k, dbus_validSingle.dict (k + 1) s a t d (j : Int) = if (s.extract 2 (j + 1)).size = 0 then some (dbus_validSingle.er (s.extract 2 (j + 1)) ⟨#[101, 109, 112, 116, 121, 32, 100, 105, 99, 116]⟩, ⟨#[]⟩)
                    else (dbus_validSingle.g k ((s.extract 2 (j + 1)).extract 0 1) (a + 1) t (d + 1)).bind fun x =>
                      if x.1.isSome = true then some (x.1, ⟨#[]⟩) else
                      (dbus_validSingle.g k ((s.extract 2 (j + 1)).extract 1 (s.extract 2 (j + 1)).size) (a + 1) t (d + 1)).bind fun y =>
                      if y.1.isSome = true then some (y.1, ⟨#[]⟩) else
                      if y.2.size = 0 then some (none, s.extract (j + 2) s.size)
                      else some (dbus_validSingle.er (s.extract 2 (j + 1)) ⟨#[116, 111, 111, 32, 109, 97, 110, 121, 32, 116, 121, 112, 101, 115, 32, 105, 110, 32, 100, 105, 99, 116]⟩, ⟨#[]⟩) := by
                  intro k
                  simp only [dbus_validSingle.dict]
                  rw [if_neg (by omega), if_pos ⟨by omega, by omega, by omega⟩, e1, e2, w64 (x := a + 1) (by omega) (by omega), w64 (x := d + 1) (by omega) (by omega)]
                by_cases hu0 : (s.extract 2 (j + 1)).size = 0
                · exact ⟨_, _, up _ (Ev.step dq (ev_ite_pos hu0 (fun _ => rfl) (Ev.now _))), Res.err⟩
                · obtain ⟨c2, r2, hcu⟩ : ∃ c2 r2, bl (s.extract 2 (j + 1)) = c2 :: r2 := by
                    cases h : bl (s.extract 2 (j + 1)) with
                    | nil => exact absurd (by rw [← bl_len, h]; rfl) hu0
                    | cons c2 r2 => exact ⟨c2, r2, rfl⟩
                  have hk : bl ((s.extract 2 (j + 1)).extract 0 1) = [c2] := by rw [bl_extract, hcu]; rfl
                  have hv : bl ((s.extract 2 (j + 1)).extract 1 (s.extract 2 (j + 1)).size) = r2 := by rw [bl_drop, hcu]; rfl
                  have hks : ((s.extract 2 (j + 1)).extract 0 1).size = 1 := by rw [← bl_len, hk]; rfl
                  have hr2 : r2.length + 1 = j - 1 := by rw [← hus, ← bl_len, hcu]; rfl
                  have hvs : ((s.extract 2 (j + 1)).extract 1 (s.extract 2 (j + 1)).size).size = r2.length := by rw [← bl_len, hv]
                  obtain ⟨e1', m1, g1, q1⟩ := ih ((s.extract 2 (j + 1)).extract 0 1) (by omega) (by omega) (a + 1) t (d + 1) (by omega) (by omega) ht ht2 (by omega) (by omega)
                  cases e1' with
                  | some v => exact ⟨_, _, up _ (Ev.step dq (ev_ite_neg hu0 (fun _ => rfl) (Ev.bind g1 (ev_ite_pos (isSome_err v) (fun _ => rfl) (Ev.now _))))), Res.err⟩
                  | none =>
                    obtain ⟨e2', m2, g2, q2⟩ := ih ((s.extract 2 (j + 1)).extract 1 (s.extract 2 (j + 1)).size) (by omega) (by omega) (a + 1) t (d + 1) (by omega) (by omega) ht ht2 (by omega) (by omega)
                    cases e2' with
                    | some v => exact ⟨_, _, up _ (Ev.step dq (ev_ite_neg hu0 (fun _ => rfl) (Ev.bind g1 (ev_ite_neg (show ¬ (false = true) by decide) (fun _ => rfl) (Ev.bind g2 (ev_ite_pos (isSome_err v) (fun _ => rfl) (Ev.now _))))))), Res.err⟩
                    | none =>
                      by_cases hm : m2.size = 0
                      · refine ⟨none, s.extract (j + 2) s.size, up _ (Ev.step dq (ev_ite_neg hu0 (fun _ => rfl) (Ev.bind g1 (ev_ite_neg (show ¬ (false = true) by decide) (fun _ => rfl) (Ev.bind g2 (ev_ite_neg (show ¬ (false = true) by decide) (fun _ => rfl) (ev_ite_pos hm (fun _ => rfl) (Ev.now _)))))))), fun _ => by rw [size_drop]; omega, fun _ hp => ?_⟩
                        rw [cut, hcu] at hp
                        have hp2 : NP (c2 :: r2) := NP.mid (a := [97, 123]) (b := c2 :: r2) (c := 125 :: bl (s.extract (j + 2) s.size)) (by simpa using hp)
                        obtain ⟨x1, t1, b1⟩ := q1.2 rfl (by rw [hk]; exact NP.pre (b := [c2]) (c := r2) hp2)
                        rw [hk] at b1
                        have o := one_of t1 b1
                        have hbc : basicC c2 = true := by
                          by_cases h118 : c2 = 118
                          · exact absurd (by rw [h118]; rfl) (hp [97] (r2 ++ 125 :: bl (s.extract (j + 2) s.size))).2
                          · have : (c2 == 118) = false := beq_eq_false_iff_ne.mpr h118
                            simpa [oneC, this] using o
                        obtain ⟨x2, t2, b2⟩ := q2.2 rfl (by rw [hv]; exact hp2.tail)
                        have hm2 : bl m2 = [] := List.eq_nil_of_length_eq_zero hm
                        rw [hv, hm2, List.append_nil] at b2
                        refine ⟨97 :: 123 :: c2 :: (r2 ++ [125]), T.dict (by omega) (by omega) (by omega) hbc ?_, by rw [cut, hcu]; simp⟩
                        rw [b2, show 32 - a - 1 = 32 - (a + 1) by omega, show 32 - d - 1 = 32 - (d + 1) by omega]
                        exact t2
                      · exact ⟨_, _, up _ (Ev.step dq (ev_ite_neg hu0 (fun _ => rfl) (Ev.bind g1 (ev_ite_neg (show ¬ (false = true) by decide) (fun _ => rfl) (Ev.bind g2 (ev_ite_neg (show ¬ (false = true) by decide) (fun _ => rfl) (ev_ite_neg hm (fun _ => rfl) (Ev.now _)))))))), Res.err⟩
            · obtain ⟨e, rem, he, hr⟩ := ih (s.extract 1 s.size) (by rw [size_drop]; omega) (by rw [size_drop]; omega) (a + 1) t d (by omega) (by omega) ht ht2 hd hd2
              refine ⟨e, rem, Ev.step (fun k => g_arr hb (fun r e => hq ⟨r, e⟩) o1 o2 o3 k) ?_, fun h => ?_, fun h hp => ?_⟩
              · rw [w64 (x := a + 1) (by omega) (by omega)]; exact he
              · have := hr.1 h
                rw [size_drop] at this; omega
              · have hb1 : bl (s.extract 1 s.size) = q := by rw [bl_drop, hb]; rfl
                rw [hb] at hp
                obtain ⟨x, tx, hx⟩ := hr.2 h (by rw [hb1]; exact hp.tail)
                rw [hb1] at hx
                refine ⟨97 :: x, T.arr (by omega) (by omega) (by omega) ?_, by rw [hb, hx]; rfl⟩
                rw [show 32 - a - 1 = 32 - (a + 1) by omega]; exact tx
          · by_cases h40 : c = 40
            · subst h40
              obtain ⟨i, hi, hi2⟩ := search0 (l := 40) (r := 41) (by decide) (by decide) (by decide) s hs hb
              have up : ∀ v, Ev (fun k => dbus_validSingle.open k s a t d i) v → Ev (fun k => dbus_validSingle.g k s a t d) v :=
                fun v h => Ev.step (fun k => g_open hb o1 o2 o3 k) (Ev.bind (a := i) hi h)
              rcases hi2 with hi2 | ⟨j, z, rfl, hj1, hj2, hj3⟩
              · refine ⟨_, _, up _ (Ev.step (f := fun _ => some (dbus_validSingle.er s ⟨#[117, 110, 109, 97, 116, 99, 104, 101, 100, 32, 39, 41, 39]⟩, ⟨#[]⟩)) (fun k => ?_) (Ev.now _)), Res.err⟩
                simp only [dbus_validSingle.open]; rw [if_pos hi2]
              · have hu : bl (s.extract 1 j) = ((bl s).drop 1).take (j - 1) := bl_extract s 1 j
                have hus : (s.extract 1 j).size = j - 1 := by rw [← bl_len, hu, List.length_take, List.length_drop, bl_len]; omega
                have cut : bl s = 40 :: (bl (s.extract 1 j) ++ 41 :: bl (s.extract (j + 1) s.size)) := by
                  have h6 : (bl s).drop 1 = ((bl s).drop 1).take (j - 1) ++ ((bl s).drop 1).drop (j - 1) := (List.take_append_drop _ _).symm
                  rw [List.drop_drop, show 1 + (j - 1) = j by omega, hj3, ← drop_succ hj3] at h6
                  rw [hu, bl_drop, ← h6, hb]; rfl
                obtain ⟨e, rem, he, h3, h4⟩ := fields N ih (s.extract (j + 1) s.size) a t d ha o1 ht o2 hd o3 (s.extract 1 j).size (s.extract 1 j) rfl (by omega) (by omega)
                refine ⟨e, rem, up _ (Ev.step (fun k => ?_) he), fun h => ?_, fun h hp => ?_⟩
                · simp only [dbus_validSingle.open]
                  rw [if_neg (by omega), if_pos ⟨by omega, by omega, by omega⟩, Int.toNat_natCast, show ((j : Int) + 1).toNat = j + 1 by omega]
                · rw [h3 h, size_drop]; omega
                · rw [cut] at hp
                  obtain ⟨xs, hxs, hx⟩ := h4 h (NP.mid (a := [40]) (b := bl (s.extract 1 j)) (c := 41 :: bl (s.extract (j + 1) s.size)) (by simpa using hp))
                  refine ⟨40 :: (xs.flatten ++ [41]), T.str (by omega) (by omega) (by omega) (fun hn => ?_) hxs, by rw [cut, hx, h3 h]; simp⟩
                  rw [hn] at hx
                  rw [hx] at hp
                  exact (hp [] (bl (s.extract (j + 1) s.size))).1 rfl
            · refine ⟨_, _, Ev.step (f := fun _ => some (dbus_validSingle.er s ⟨#[105, 110, 118, 97, 108, 105, 100, 32, 116, 121, 112, 101, 32, 99, 104, 97, 114, 97, 99, 116, 101, 114]⟩, ⟨#[]⟩)) (fun k => ?_) (Ev.now _), Res.err⟩
              simp only [dbus_validSingle.g]
              rw [if_neg (by omega), hok, if_neg (by decide), bt_cons hb, simple_f, hoc, if_neg (by decide), if_neg (show ¬ (c.toNat : Int) = 97 from fun z => h97 ((num_eq 97).mp z)), if_neg (show ¬ (c.toNat : Int) = 40 from fun z => h40 ((num_eq 40).mp z))]
end Go.Proofs.YthcafnmagidpiaaDoor.MFnVtTokensJoint

/- The reference's split of a signature: into its complete types, if it is of such and of at most 255 bytes. -/
namespace Go.Proofs.YthcafnmagidpiaaDoor.MFnVtTokensJoiny
open Go Go.RowKit Go.Proofs.YthcafnmagidpiaaDoor.MFnVtTokensJoin Go.Proofs.YthcafnmagidpiaaDoorW.PrintWords Go.Proofs.YthcafnmagidpiaaDoorW.PrintLast Go.Proofs.YthcafnmagidpiaaDoor.Hlp Go.Proofs.YthcafnmagidpiaaDoor.SgT Go.Proofs.YthcafnmagidpiaaDoor.MFnVtTokensJoins
set_option linter.unusedVariables false

theorem good_cons {A B E : Int} {x : List UInt8} {xs : List (List UInt8)} (hx : T A B E x) (h : ∀ y ∈ xs, T A B E y) : ∀ y ∈ x :: xs, T A B E y := by
  intro y hy
  rcases List.mem_cons.mp hy with rfl | hy
  · exact hx
  · exact h y hy
theorem types_l (m : Nat) : ∀ (s : ByteArray) (acc : List ByteArray), s.size = m → m ≤ 1000 → acc.length + m ≤ 5000 → ∃ L b, Ev (fun k => spec_Types.l0 k s acc) (L, b) ∧
    ((b = true ∧ ∃ zs : List ByteArray, L = acc ++ zs ∧ (∀ x ∈ zs.map bl, T 32 32 32 x) ∧ bl s = (zs.map bl).flatten) ∨ (b = false ∧ L = [] ∧ ∀ ys : List (List UInt8), (∀ x ∈ ys, T 32 32 32 x) → bl s ≠ ys.flatten)) := by
  induction m using Nat.strongRecOn with
  | _ m ih =>
  intro s acc hm hm2 hacc
  by_cases h0 : s.size = 0
  · refine ⟨acc, true, Ev.step (f := fun _ => some (acc, true)) (fun k => ?_) (Ev.now _), .inl ⟨rfl, [], by simp, fun x h => by (cases h), ?_⟩⟩
    · simp only [spec_Types.l0]; rw [if_pos ((emp_iff s).mpr h0)]
    · exact List.eq_nil_of_length_eq_zero h0
  · obtain ⟨n, hn, h1, h2⟩ := complete s.size s (Nat.le_refl _) (by omega) 32 32 32 (by omega) (by omega) (by omega) (by omega) (by omega) (by omega)
    have hc : Ev (fun k => spec_complete.f k s) (n : Int) := Ev.bind hn (Ev.now _)
    have st : ∀ k, spec_Types.l0 (k + 1) s acc = (spec_complete.f k s).bind fun t107 => (if t107 = 0 then (some (([] : List ByteArray), false)) else (if 0 ≤ t107 then (if t107 ≤ (s.size : Int) then (if acc.length < 8796093022208 then (spec_Types.l0 k (s.extract (t107 : Int).toNat s.size) (acc ++ [s.extract 0 (t107 : Int).toNat])) else (none)) else (none)) else (none))) := by
      intro k; simp only [spec_Types.l0]; rw [if_neg (fun q => h0 ((emp_iff s).mp q))]
    by_cases hz : n = 0
    · subst hz
      refine ⟨[], false, Ev.step st (Ev.bind hc (ev_ite_pos rfl (fun _ => rfl) (Ev.now _))), .inr ⟨rfl, rfl, fun ys hys e => ?_⟩⟩
      cases ys with
      | nil => exact h0 (by rw [← bl_len, e]; rfl)
      | cons y ys =>
        have := h1 y ys.flatten (hys y List.mem_cons_self) e
        have := (hys y List.mem_cons_self).len
        omega
    · obtain ⟨h3, h4⟩ := h2 (by omega)
      obtain ⟨L, b, hL, hr⟩ := ih (s.size - n) (by omega) (s.extract n s.size) (acc ++ [s.extract 0 n]) (size_drop s n) (by omega) (by simp; omega)
      refine ⟨L, b, Ev.step st (Ev.bind hc (ev_ite_neg (by omega) (fun _ => rfl) (ev_ite_pos (by omega) (fun _ => rfl) (ev_ite_pos (by omega) (fun _ => rfl) (ev_ite_pos (by omega) (fun _ => rfl) (by rw [Int.toNat_natCast]; exact hL)))))), ?_⟩
      have et : bl (s.extract 0 n) = (bl s).take n := by rw [bl_extract]; rfl
      have es : bl s = (bl s).take n ++ (bl s).drop n := (List.take_append_drop n _).symm
      rcases hr with ⟨hb, zs, e1, e2, e3⟩ | ⟨hb, hL0, e2⟩
      · refine .inl ⟨hb, s.extract 0 n :: zs, by rw [e1]; simp, ?_, ?_⟩
        · rw [List.map_cons, et]; exact good_cons h4 e2
        · rw [List.map_cons, List.flatten_cons, ← e3, bl_drop, et]; exact es
      · refine .inr ⟨hb, hL0, fun ys hys e => ?_⟩
        cases ys with
        | nil => exact h0 (by rw [← bl_len, e]; rfl)
        | cons y ys =>
          have e4 := h1 y ys.flatten (hys y List.mem_cons_self) e
          refine e2 ys (fun x hx => hys x (List.mem_cons_of_mem _ hx)) ?_
          rw [bl_drop, e, e4]; simp
/-- Of a text that is short enough. -/
theorem types (s : ByteArray) (hs : s.size ≤ 1000000000) : ∃ L b, Ev (fun k => spec_Types.f k s) (L, b) ∧
    ((b = true ∧ s.size ≤ 255 ∧ (∀ x ∈ L.map bl, T 32 32 32 x) ∧ bl s = (L.map bl).flatten) ∨ (b = false ∧ L = [] ∧ (255 < s.size ∨ ∀ ys : List (List UInt8), (∀ x ∈ ys, T 32 32 32 x) → bl s ≠ ys.flatten))) := by
  by_cases h : (s.size : Int) > 255
  · exact ⟨[], false, ev_ite_pos h (fun _ => rfl) (Ev.now _), .inr ⟨rfl, rfl, .inl (by omega)⟩⟩
  · obtain ⟨L, b, hL, hr⟩ := types_l s.size s [] rfl (by omega) (by simp; omega)
    refine ⟨L, b, ev_ite_neg h (fun _ => rfl) hL, ?_⟩
    rcases hr with ⟨hb, zs, e1, e2, e3⟩ | ⟨hb, hL0, e2⟩
    · rw [List.nil_append] at e1; subst e1
      exact .inl ⟨hb, by omega, e2, e3⟩
    · exact .inr ⟨hb, hL0, .inr e2⟩
/-- One complete type alone splits so in one way: the two lists of types of one text are the same. -/
theorem types_eq : ∀ (xs ys : List (List UInt8)), (∀ x ∈ xs, T 32 32 32 x) → (∀ y ∈ ys, T 32 32 32 y) → xs.flatten.length ≤ 100000 → xs.flatten = ys.flatten → xs = ys
  | [], [], _, _, _, _ => rfl
  | [], y :: ys, _, hy, _, e => by
    have := (hy y List.mem_cons_self).len
    have h2 := congrArg List.length e
    simp only [List.flatten_nil, List.flatten_cons, List.length_nil, List.length_append] at h2; omega
  | x :: xs, [], hx, _, _, e => by
    have := (hx x List.mem_cons_self).len
    have h2 := congrArg List.length e
    simp only [List.flatten_nil, List.flatten_cons, List.length_nil, List.length_append] at h2; omega
  | x :: xs, y :: ys, hx, hy, hl, e => by
    let s : ByteArray := ⟨((x :: xs).flatten).toArray⟩
    have hb : bl s = (x :: xs).flatten := by simp [s, bl]
    have hs : s.size ≤ 1000000000 := by rw [← bl_len, hb]; omega
    obtain ⟨n, _, h1, _⟩ := complete s.size s (Nat.le_refl _) hs 32 32 32 (by omega) (by omega) (by omega) (by omega) (by omega) (by omega)
    have e1 := h1 x xs.flatten (hx x List.mem_cons_self) hb
    have e2 := h1 y ys.flatten (hy y List.mem_cons_self) (by rw [hb, e]; rfl)
    simp only [List.flatten_cons] at e
    have e3 : x = y := by
      have h3 := congrArg (List.take x.length) e
      rw [List.take_left, show x.length = y.length by omega, List.take_left] at h3
      exact h3
    subst e3
    have e4 := List.append_cancel_left e
    rw [types_eq xs ys (fun z hz => hx z (List.mem_cons_of_mem _ hz)) (fun z hz => hy z (List.mem_cons_of_mem _ hz)) (by simp only [List.flatten_cons, List.length_append] at hl; omega) e4]
end Go.Proofs.YthcafnmagidpiaaDoor.MFnVtTokensJoiny

/- What ParseSignature says: the texts of complete types, of at most 255 bytes, are taken; others, without "()" and "{v", are not. -/
namespace Go.Proofs.YthcafnmagidpiaaDoor.MFnVtTokensJoinp
open Go Go.RowKit Go.Proofs.YthcafnmagidpiaaDoor.MFnVtTokensJoin Go.Proofs.YthcafnmagidpiaaDoorW.PrintWords Go.Proofs.YthcafnmagidpiaaDoorW.PrintLast Go.Proofs.YthcafnmagidpiaaDoor.Hlp Go.Proofs.YthcafnmagidpiaaDoor.SgT Go.Proofs.YthcafnmagidpiaaDoor.MFnVtTokensJoini Go.Proofs.YthcafnmagidpiaaDoor.MFnVtTokensJoint
set_option linter.unusedVariables false

theorem p_nil {s : ByteArray} (h : s.size = 0) : Ev (fun k => dbus_ParseSignature.l k none s) none := by
  refine Ev.step (f := fun _ => some none) (fun k => ?_) (Ev.now _)
  simp only [dbus_ParseSignature.l]; rw [if_neg (by decide), if_pos h]
theorem p_more {s : ByteArray} (h : ¬ s.size = 0) (k : Nat) : dbus_ParseSignature.l (k + 1) none s = (dbus_validSingle.g k s 0 0 0).bind fun x => dbus_ParseSignature.l k x.1 x.2 := by
  simp only [dbus_ParseSignature.l]; rw [if_neg (by decide), if_neg h]
/-- Complete types ahead are gone through. -/
theorem eat (e : Option (TypeId × Value)) (s2 : ByteArray) (h2 : Ev (fun k => dbus_ParseSignature.l k none s2) e) : ∀ (xs : List (List UInt8)) (s : ByteArray), (∀ x ∈ xs, T 32 32 32 x) → bl s = xs.flatten ++ bl s2 → s.size ≤ 1000000000 →
    Ev (fun k => dbus_ParseSignature.l k none s) e
  | [], s, _, hb, _ => by rw [bl_ext (s := s) (t := s2) (by rw [hb]; rfl)]; exact h2
  | x :: xs, s, hx, hb, hs => by
    have tx := hx x List.mem_cons_self
    have hl := tx.len
    have h0 : ¬ s.size = 0 := by rw [← bl_len, hb, List.flatten_cons, List.length_append, List.length_append]; omega
    refine Ev.step (fun k => p_more h0 k) (Ev.bind (takes tx s 0 0 0 (xs.flatten ++ bl s2) (by omega) (by omega) (by omega) (by omega) (by omega) (by omega) (by rw [hb]; simp) hs) ?_)
    refine eat e s2 h2 xs (s.extract x.length s.size) (fun y hy => hx y (List.mem_cons_of_mem _ hy)) ?_ (by rw [size_drop]; omega)
    rw [bl_drop, hb]; simp
/-- It comes to an end. -/
theorem ends (m : Nat) : ∀ s : ByteArray, s.size = m → s.size ≤ 1000000000 → ∃ e, Ev (fun k => dbus_ParseSignature.l k none s) e ∧ (e = none → NP (bl s) → ∃ xs : List (List UInt8), (∀ x ∈ xs, T 32 32 32 x) ∧ bl s = xs.flatten) := by
  induction m using Nat.strongRecOn with
  | _ m ih =>
  intro s hm hs
  by_cases h0 : s.size = 0
  · exact ⟨none, p_nil h0, fun _ _ => ⟨[], fun x h => by (cases h), List.eq_nil_of_length_eq_zero h0⟩⟩
  · obtain ⟨e, rem, he, hr⟩ := tot s.size s (Nat.le_refl _) hs 0 0 0 (by omega) (by omega) (by omega) (by omega) (by omega) (by omega)
    cases e with
    | some v =>
      refine ⟨some v, Ev.step (fun k => p_more h0 k) (Ev.bind he (Ev.step (f := fun _ => some (some v)) (fun k => ?_) (Ev.now _))), fun h => by (cases h)⟩
      simp only [dbus_ParseSignature.l]; exact if_pos rfl
    | none =>
      have hlt := hr.1 rfl
      obtain ⟨e2, he2, h3⟩ := ih rem.size (by omega) rem rfl (by omega)
      refine ⟨e2, Ev.step (fun k => p_more h0 k) (Ev.bind he he2), fun hn hp => ?_⟩
      obtain ⟨x, hx, hb⟩ := hr.2 rfl hp
      rw [hb] at hp
      obtain ⟨xs, hxs, hb2⟩ := h3 hn hp.suf
      refine ⟨x :: xs, fun y hy => ?_, by rw [hb, hb2]; rfl⟩
      rcases List.mem_cons.mp hy with rfl | hy
      · exact hx
      · exact hxs y hy
end Go.Proofs.YthcafnmagidpiaaDoor.MFnVtTokensJoinp
