/- Complete types of signatures as lists of bytes, in plain Lean: what a complete type is, with how many arrays, brackets and dict entries may still stand in it. -/
import Derived.Test.YtfipimoemhbnlaaHlp
namespace Go.Proofs.Ytfipimoemhbnlaa.SgT
open Go
set_option linter.unusedVariables false

/-- The letters of the basic types. -/
def basicC (c : UInt8) : Bool := c == 121 || c == 98 || c == 110 || c == 113 || c == 105 || c == 117 || c == 120 || c == 116 || c == 100 || c == 115 || c == 111 || c == 103 || c == 104
/-- A type of one letter. -/
def oneC (c : UInt8) : Bool := basicC c || c == 118

/-- One complete type, in at most n steps. -/
def TF : Nat → Int → Int → Int → List UInt8 → Prop
  | 0, _, _, _, _ => False
  | n + 1, A, B, E, l => 0 ≤ A ∧ 0 ≤ B ∧ 0 ≤ E ∧
    ((∃ c, oneC c = true ∧ l = [c]) ∨ (∃ x, TF n (A - 1) B E x ∧ l = 97 :: x) ∨
     (∃ c x, basicC c = true ∧ TF n (A - 1) B (E - 1) x ∧ l = 97 :: 123 :: c :: (x ++ [125])) ∨
     (∃ xs : List (List UInt8), xs ≠ [] ∧ (∀ x ∈ xs, TF n A (B - 1) E x) ∧ l = 40 :: (xs.flatten ++ [41])))
def T (A B E : Int) (l : List UInt8) : Prop := ∃ n, TF n A B E l

theorem TF.succ {n : Nat} : ∀ {A B E : Int} {l : List UInt8}, TF n A B E l → TF (n + 1) A B E l := by
  induction n with
  | zero => intro A B E l h; exact h.elim
  | succ n ih =>
    intro A B E l h
    obtain ⟨h1, h2, h3, h⟩ := h
    refine ⟨h1, h2, h3, ?_⟩
    rcases h with h | ⟨x, hx, e⟩ | ⟨c, x, hc, hx, e⟩ | ⟨xs, hn, hx, e⟩
    · exact .inl h
    · exact .inr (.inl ⟨x, ih hx, e⟩)
    · exact .inr (.inr (.inl ⟨c, x, hc, ih hx, e⟩))
    · exact .inr (.inr (.inr ⟨xs, hn, fun x h => ih (hx x h), e⟩))
theorem TF.le {n m : Nat} (h : n ≤ m) {A B E : Int} {l : List UInt8} (t : TF n A B E l) : TF m A B E l := by
  induction h with
  | refl => exact t
  | step _ ih => exact ih.succ
theorem T.pos {A B E : Int} {l : List UInt8} (t : T A B E l) : 0 ≤ A ∧ 0 ≤ B ∧ 0 ≤ E := by
  obtain ⟨n, t⟩ := t
  cases n with
  | zero => exact t.elim
  | succ n => exact ⟨t.1, t.2.1, t.2.2.1⟩
theorem T.one {A B E : Int} (hA : 0 ≤ A) (hB : 0 ≤ B) (hE : 0 ≤ E) {c : UInt8} (h : oneC c = true) : T A B E [c] := ⟨1, hA, hB, hE, .inl ⟨c, h, rfl⟩⟩
theorem T.arr {A B E : Int} (hA : 0 ≤ A) (hB : 0 ≤ B) (hE : 0 ≤ E) {x : List UInt8} (t : T (A - 1) B E x) : T A B E (97 :: x) := by
  obtain ⟨n, t⟩ := t
  exact ⟨n + 1, hA, hB, hE, .inr (.inl ⟨x, t, rfl⟩)⟩
theorem T.dict {A B E : Int} (hA : 0 ≤ A) (hB : 0 ≤ B) (hE : 0 ≤ E) {c : UInt8} (h : basicC c = true) {x : List UInt8} (t : T (A - 1) B (E - 1) x) : T A B E (97 :: 123 :: c :: (x ++ [125])) := by
  obtain ⟨n, t⟩ := t
  exact ⟨n + 1, hA, hB, hE, .inr (.inr (.inl ⟨c, x, h, t, rfl⟩))⟩
/-- Steps that serve for all of a list. -/
theorem T.all {A B E : Int} : ∀ {xs : List (List UInt8)}, (∀ x ∈ xs, T A B E x) → ∃ n, ∀ x ∈ xs, TF n A B E x
  | [], _ => ⟨0, fun _ h => by cases h⟩
  | x :: xs, h => by
    obtain ⟨n, hn⟩ := T.all (fun y hy => h y (List.mem_cons_of_mem _ hy))
    obtain ⟨m, hm⟩ := h x List.mem_cons_self
    refine ⟨max n m, fun y hy => ?_⟩
    rcases List.mem_cons.mp hy with rfl | hy
    · exact hm.le (Nat.le_max_right _ _)
    · exact (hn y hy).le (Nat.le_max_left _ _)
theorem T.str {A B E : Int} (hA : 0 ≤ A) (hB : 0 ≤ B) (hE : 0 ≤ E) {xs : List (List UInt8)} (hn : xs ≠ []) (h : ∀ x ∈ xs, T A (B - 1) E x) : T A B E (40 :: (xs.flatten ++ [41])) := by
  obtain ⟨n, t⟩ := T.all h
  exact ⟨n + 1, hA, hB, hE, .inr (.inr (.inr ⟨xs, hn, t, rfl⟩))⟩
/-- One of the four. -/
theorem T.cases {A B E : Int} {l : List UInt8} (t : T A B E l) : 0 ≤ A ∧ 0 ≤ B ∧ 0 ≤ E ∧
    ((∃ c, oneC c = true ∧ l = [c]) ∨ (∃ x, T (A - 1) B E x ∧ l = 97 :: x) ∨
     (∃ c x, basicC c = true ∧ T (A - 1) B (E - 1) x ∧ l = 97 :: 123 :: c :: (x ++ [125])) ∨
     (∃ xs : List (List UInt8), xs ≠ [] ∧ (∀ x ∈ xs, T A (B - 1) E x) ∧ l = 40 :: (xs.flatten ++ [41]))) := by
  obtain ⟨n, t⟩ := t
  cases n with
  | zero => exact t.elim
  | succ n =>
    obtain ⟨h1, h2, h3, h⟩ := t
    refine ⟨h1, h2, h3, ?_⟩
    rcases h with h | ⟨x, hx, e⟩ | ⟨c, x, hc, hx, e⟩ | ⟨xs, hn, hx, e⟩
    · exact .inl h
    · exact .inr (.inl ⟨x, ⟨n, hx⟩, e⟩)
    · exact .inr (.inr (.inl ⟨c, x, hc, ⟨n, hx⟩, e⟩))
    · exact .inr (.inr (.inr ⟨xs, hn, fun x h => ⟨n, hx x h⟩, e⟩))
/-- Induction over complete types. -/
theorem T.ind {P : Int → Int → Int → List UInt8 → Prop}
    (one : ∀ A B E c, 0 ≤ A → 0 ≤ B → 0 ≤ E → oneC c = true → P A B E [c])
    (arr : ∀ A B E x, 0 ≤ A → 0 ≤ B → 0 ≤ E → T (A - 1) B E x → P (A - 1) B E x → P A B E (97 :: x))
    (dict : ∀ A B E c x, 0 ≤ A → 0 ≤ B → 0 ≤ E → basicC c = true → T (A - 1) B (E - 1) x → P (A - 1) B (E - 1) x → P A B E (97 :: 123 :: c :: (x ++ [125])))
    (str : ∀ A B E (xs : List (List UInt8)), 0 ≤ A → 0 ≤ B → 0 ≤ E → xs ≠ [] → (∀ x ∈ xs, T A (B - 1) E x) → (∀ x ∈ xs, P A (B - 1) E x) → P A B E (40 :: (xs.flatten ++ [41])))
    {A B E : Int} {l : List UInt8} (t : T A B E l) : P A B E l := by
  obtain ⟨n, t⟩ := t
  induction n generalizing A B E l with
  | zero => exact t.elim
  | succ n ih =>
    obtain ⟨h1, h2, h3, h⟩ := t
    rcases h with ⟨c, hc, rfl⟩ | ⟨x, hx, rfl⟩ | ⟨c, x, hc, hx, rfl⟩ | ⟨xs, hn, hx, rfl⟩
    · exact one A B E c h1 h2 h3 hc
    · exact arr A B E x h1 h2 h3 ⟨n, hx⟩ (ih hx)
    · exact dict A B E c x h1 h2 h3 hc ⟨n, hx⟩ (ih hx)
    · exact str A B E xs h1 h2 h3 hn (fun x h => ⟨n, hx x h⟩) (fun x h => ih (hx x h))
theorem one_ascii : ∀ c : UInt8, oneC c = true → c.toNat < 128 ∧ c ≠ 97 ∧ c ≠ 40 ∧ c ≠ 41 ∧ c ≠ 123 ∧ c ≠ 125 := by
  intro c h
  simp only [oneC, basicC, Bool.or_eq_true, beq_iff_eq] at h
  rcases h with (((((((((((((h | h) | h) | h) | h) | h) | h) | h) | h) | h) | h) | h) | h) | h) <;> subst h <;> decide
/-- A type begins with a letter, 'a' or a bracket. -/
theorem T.head {A B E : Int} {l : List UInt8} (t : T A B E l) : ∃ c r, l = c :: r ∧ c ≠ 123 ∧ c ≠ 41 ∧ c ≠ 125 := by
  obtain ⟨_, _, _, h⟩ := t.cases
  rcases h with ⟨c, hc, rfl⟩ | ⟨x, hx, rfl⟩ | ⟨c, x, hc, hx, rfl⟩ | ⟨xs, hn, hx, rfl⟩
  · obtain ⟨_, _, _, h41, h123, h125⟩ := one_ascii c hc
    exact ⟨c, [], rfl, h123, h41, h125⟩
  · exact ⟨97, x, rfl, by decide, by decide, by decide⟩
  · exact ⟨97, _, rfl, by decide, by decide, by decide⟩
  · exact ⟨40, _, rfl, by decide, by decide, by decide⟩
theorem T.len {A B E : Int} {l : List UInt8} (t : T A B E l) : 0 < l.length := by
  obtain ⟨c, r, rfl, _⟩ := t.head
  simp
/-- More room does no harm. -/
theorem T.more {A B E : Int} {l : List UInt8} (t : T A B E l) : ∀ {A' B' E' : Int}, A ≤ A' → B ≤ B' → E ≤ E' → T A' B' E' l := by
  refine T.ind (P := fun A B E l => ∀ {A' B' E' : Int}, A ≤ A' → B ≤ B' → E ≤ E' → T A' B' E' l) ?_ ?_ ?_ ?_ t
  · intro A B E c h1 h2 h3 hc A' B' E' a b e; exact T.one (by omega) (by omega) (by omega) hc
  · intro A B E x h1 h2 h3 _ ih A' B' E' a b e; exact T.arr (by omega) (by omega) (by omega) (ih (by omega) (by omega) (by omega))
  · intro A B E c x h1 h2 h3 hc _ ih A' B' E' a b e; exact T.dict (by omega) (by omega) (by omega) hc (ih (by omega) (by omega) (by omega))
  · intro A B E xs h1 h2 h3 hn _ ih A' B' E' a b e; exact T.str (by omega) (by omega) (by omega) hn (fun x hx => ih x hx (by omega) (by omega) (by omega))
/-- Dict entries stand in arrays: their number needs no bound of its own. -/
theorem T.entries {A B E : Int} {l : List UInt8} (t : T A B E l) : ∀ {E' : Int}, A ≤ E' → T A B E' l := by
  refine T.ind (P := fun A B E l => ∀ {E' : Int}, A ≤ E' → T A B E' l) ?_ ?_ ?_ ?_ t
  · intro A B E c h1 h2 h3 hc E' e; exact T.one h1 h2 (by omega) hc
  · intro A B E x h1 h2 h3 _ ih E' e; exact T.arr h1 h2 (by omega) (ih (by omega))
  · intro A B E c x h1 h2 h3 hc _ ih E' e; exact T.dict h1 h2 (by omega) hc (ih (by omega))
  · intro A B E xs h1 h2 h3 hn _ ih E' e; exact T.str h1 h2 (by omega) hn (fun x hx => ih x hx e)
end Go.Proofs.Ytfipimoemhbnlaa.SgT
