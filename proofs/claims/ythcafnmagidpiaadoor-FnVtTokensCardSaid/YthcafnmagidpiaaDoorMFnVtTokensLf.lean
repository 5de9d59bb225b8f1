-- A trial text of this session.
import Derived.Test.YthcafnmagidpiaaDoorMFnVtTokensLc
import Derived.Test.YthcafnmagidpiaaDoorMFnVtTokensLd
import Derived.Test.YthcafnmagidpiaaDoorMFnVtTokensLe
namespace Go.Proofs.YthcafnmagidpiaaDoor.MFnVtTokens
open Go.RowKit Go.Proofs.YthcafnmagidpiaaDoorW.PrintWords Go.Proofs.YthcafnmagidpiaaDoorW.PrintLast Go.Proofs.YthcafnmagidpiaaDoorW.PrintMore
attribute [local go_sem] max2_int min2_int max_two min_two max_three min_three max_four min_four
set_option linter.unusedVariables false
set_option linter.unusedSimpArgs false


/-! ### the lexer over a list of bytes -/
def sgl (c : UInt8) : Int := if c = 91 then 5 else if c = 93 then 6 else if c = 123 then 7 else if c = 125 then 8 else if c = 60 then 9 else if c = 62 then 10 else if c = 58 then 12 else if c = 44 then 11 else 0
def unT : ByteArray := ⟨#[117, 110, 116, 101, 114, 109, 105, 110, 97, 116, 101, 100, 32, 115, 116, 114, 105, 110, 103]⟩
def unB : ByteArray := ⟨#[117, 110, 116, 101, 114, 109, 105, 110, 97, 116, 101, 100, 32, 98, 121, 116, 101, 115, 116, 114, 105, 110, 103]⟩
def strF (t : Int) (m : Nat) (er : ByteArray) (o : Option Nat) : Option (Int × Nat) × ByteArray := match o with
  | none => (none, er)
  | some n => (some (t, m + n), ⟨#[]⟩)
/-- The token with which a text begins that begins with no blank. -/
def tokC (K : Nat) (c : UInt8) (r : List UInt8) : Option (Option (Int × Nat) × ByteArray) :=
    if sgl c ≠ 0 then some (some (sgl c, 1), ⟨#[]⟩)
    else if c = 39 ∨ c = 34 then some (strF 3 1 unT (quo c r))
    else if c = 64 then typF K (c :: r)
    else if 128 ≤ c.toNat then none
    else if hd D10 (c :: r) = true ∨ hd PM (c :: r) = true then numF (c :: r)
    else if c = 98 ∧ (r.headD 0 = 34 ∨ r.headD 0 = 39) then some (strF 14 2 unB (quo (r.headD 0) r.tail))
    else if (c :: r).take 4 = [116, 114, 117, 101] then some (some (4, 4), ⟨#[]⟩)
    else if (c :: r).take 5 = [102, 97, 108, 115, 101] then some (some (4, 5), ⟨#[]⟩)
    else typF K (c :: r)
def tokF (K : Nat) : List UInt8 → Option (Option (Int × Nat) × ByteArray)
  | [] => none
  | c :: r => tokC K c r
def lexF (K : Nat) : Nat → List UInt8 → Option (List S48)
  | 0, _ => none
  | _ + 1, [] => some [⟨0, ⟨#[]⟩⟩]
  | n + 1, c :: r => if blankb c = true then lexF K n r else (tokF K (c :: r)).bind fun x => match x.1 with
    | none => some [⟨1, x.2⟩]
    | some tn => (lexF K n ((c :: r).drop tn.2)).map fun y => ⟨tn.1, ⟨((c :: r).take tn.2).toArray⟩⟩ :: y
/-- What is left of a token: the tokens behind it. -/
def Left (K : Nat) (l : List UInt8) (rest : List S48) (x : Option (Int × Nat) × ByteArray) : Prop := match x.1 with
  | none => rest = [⟨1, x.2⟩]
  | some tn => ∃ n y, lexF K n (l.drop tn.2) = some y ∧ rest = ⟨tn.1, ⟨(l.take tn.2).toArray⟩⟩ :: y
theorem lex_tok {K n : Nat} {c : UInt8} {t : List UInt8} {rest : List S48} (hb : blankb c = false) (h : lexF K n (c :: t) = some rest) : ∃ x, tokF K (c :: t) = some x ∧ Left K (c :: t) rest x := by
  cases n with
  | zero => cases h
  | succ n =>
    unfold lexF at h
    rw [if_neg (by rw [hb]; simp)] at h
    obtain ⟨x, h1, h2⟩ := Option.bind_eq_some_iff.1 h
    refine ⟨x, h1, ?_⟩
    unfold Left
    cases hx : x.1 with
    | none => rw [hx] at h2; exact (Option.some.inj h2).symm
    | some tn =>
      rw [hx] at h2
      obtain ⟨y, h3, h4⟩ := Option.map_eq_some_iff.1 h2
      exact ⟨n, y, h3, h4.symm⟩
theorem lex_blank {K n : Nat} {c : UInt8} {t : List UInt8} {rest : List S48} (hb : blankb c = true) (h : lexF K n (c :: t) = some rest) : ∃ n, lexF K n t = some rest := by
  cases n with
  | zero => cases h
  | succ n =>
    unfold lexF at h
    rw [if_pos hb] at h
    exact ⟨n, h⟩
theorem lex_end {K n : Nat} {rest : List S48} (h : lexF K n [] = some rest) : rest = [⟨0, ⟨#[]⟩⟩] := by
  cases n with
  | zero => cases h
  | succ n => exact (Option.some.inj h).symm
theorem tok_sgl {K : Nat} {c : UInt8} {t : List UInt8} {x : Option (Int × Nat) × ByteArray} (V : Int) (hs : sgl c = V) (hV : V ≠ 0) (h : tokF K (c :: t) = some x) : x = (some (V, 1), ⟨#[]⟩) := by
  replace h : tokC K c t = some x := h
  unfold tokC at h
  rw [hs, if_pos hV] at h
  exact (Option.some.inj h).symm
theorem tok_quo {K : Nat} {c : UInt8} {t : List UInt8} {x : Option (Int × Nat) × ByteArray} (hc : c = 39 ∨ c = 34) (h : tokF K (c :: t) = some x) : x = strF 3 1 unT (quo c t) := by
  replace h : tokC K c t = some x := h
  unfold tokC at h
  rw [if_neg (by rcases hc with rfl | rfl <;> decide), if_pos hc] at h
  exact (Option.some.inj h).symm
theorem tok_at {K : Nat} {t : List UInt8} : tokF K (64 :: t) = typF K (64 :: t) := by
  show tokC K 64 t = _
  unfold tokC
  rw [if_neg (by decide), if_neg (by decide), if_pos rfl]
theorem tok_hi {K : Nat} {c : UInt8} {t : List UInt8} (hc : 128 ≤ c.toNat) : tokF K (c :: t) = none := by
  have hn : ∀ d : UInt8, d.toNat < 128 → c ≠ d := fun d hd e => by subst e; omega
  show tokC K c t = _
  unfold tokC
  have hs : sgl c = 0 := by
    unfold sgl
    rw [if_neg (hn _ (by decide)), if_neg (hn _ (by decide)), if_neg (hn _ (by decide)), if_neg (hn _ (by decide)), if_neg (hn _ (by decide)), if_neg (hn _ (by decide)), if_neg (hn _ (by decide)), if_neg (hn _ (by decide))]
  rw [if_neg (by rw [hs]; simp), if_neg (by intro e; rcases e with e | e <;> exact hn _ (by decide) e), if_neg (hn _ (by decide)), if_pos hc]
theorem sgl_zero {c : UInt8} (h : c ≠ 91 ∧ c ≠ 93 ∧ c ≠ 123 ∧ c ≠ 125 ∧ c ≠ 60 ∧ c ≠ 62 ∧ c ≠ 58 ∧ c ≠ 44) : sgl c = 0 := by
  unfold sgl
  obtain ⟨g91, g93, g123, g125, g60, g62, g58, g44⟩ := h
  rw [if_neg g91, if_neg g93, if_neg g123, if_neg g125, if_neg g60, if_neg g62, if_neg g58, if_neg g44]
theorem num_fin : ∀ n : Fin 256, ((48 ≤ n.val ∧ n.val ≤ 57) ∨ n.val = 43 ∨ n.val = 45) → (D10.data.toList.contains (UInt8.ofNat n.val) = true ∨ PM.data.toList.contains (UInt8.ofNat n.val) = true) := by decide +kernel
theorem num_fin2 : ∀ n : Fin 128, ¬ ((48 ≤ n.val ∧ n.val ≤ 57) ∨ n.val = 43 ∨ n.val = 45) → ¬ (D10.data.toList.contains (UInt8.ofNat n.val) = true ∨ PM.data.toList.contains (UInt8.ofNat n.val) = true) := by decide +kernel
theorem tok_num {K : Nat} {c : UInt8} {t : List UInt8} (hc : (48 ≤ c.toNat ∧ c.toNat ≤ 57) ∨ c.toNat = 43 ∨ c.toNat = 45) : tokF K (c :: t) = numF (c :: t) := by
  have hn : ∀ d : UInt8, ¬ ((48 ≤ d.toNat ∧ d.toNat ≤ 57) ∨ d.toNat = 43 ∨ d.toNat = 45) → c ≠ d := fun d hd e => by subst e; exact hd hc
  show tokC K c t = _
  unfold tokC
  have hs : sgl c = 0 := sgl_zero ⟨hn _ (by decide), hn _ (by decide), hn _ (by decide), hn _ (by decide), hn _ (by decide), hn _ (by decide), hn _ (by decide), hn _ (by decide)⟩
  have hh : hd D10 (c :: t) = true ∨ hd PM (c :: t) = true := by
    have := num_fin ⟨c.toNat, c.toNat_lt⟩ hc
    simp only [UInt8.ofNat_toNat] at this
    exact this
  rw [if_neg (by rw [hs]; simp), if_neg (by intro e; rcases e with e | e <;> exact hn _ (by decide) e), if_neg (hn _ (by decide)), if_neg (by omega), if_pos hh]
theorem tok_b {K : Nat} {q : UInt8} {t : List UInt8} (hq : q = 34 ∨ q = 39) : tokF K (98 :: q :: t) = some (strF 14 2 unB (quo q t)) := by
  show tokC K 98 (q :: t) = _
  unfold tokC
  rw [if_neg (by decide), if_neg (by decide), if_neg (by decide), if_neg (by decide), if_neg (by show ¬ (D10.data.toList.contains 98 = true ∨ PM.data.toList.contains 98 = true); decide), if_pos ⟨rfl, hq⟩]
  rfl
/-- A byte with which no bracket, string, number or '@' begins. -/
def Word (c : UInt8) : Prop := (c ≠ 91 ∧ c ≠ 93 ∧ c ≠ 123 ∧ c ≠ 125 ∧ c ≠ 60 ∧ c ≠ 62 ∧ c ≠ 58 ∧ c ≠ 44) ∧ c ≠ 39 ∧ c ≠ 34 ∧ c ≠ 64 ∧ c.toNat < 128 ∧ ¬ ((48 ≤ c.toNat ∧ c.toNat ≤ 57) ∨ c.toNat = 43 ∨ c.toNat = 45)
theorem tok_word {K : Nat} {c : UInt8} {t : List UInt8} (h : Word c) (hb : ¬ (c = 98 ∧ (t.headD 0 = 34 ∨ t.headD 0 = 39))) : tokF K (c :: t) = if (c :: t).take 4 = [116, 114, 117, 101] then some (some (4, 4), ⟨#[]⟩)
    else if (c :: t).take 5 = [102, 97, 108, 115, 101] then some (some (4, 5), ⟨#[]⟩)
    else typF K (c :: t) := by
  obtain ⟨h1, h2, h3, h4, h5, h6⟩ := h
  have hh : ¬ (hd D10 (c :: t) = true ∨ hd PM (c :: t) = true) := by
    have := num_fin2 ⟨c.toNat, h5⟩ h6
    simp only [UInt8.ofNat_toNat] at this
    exact this
  show tokC K c t = _
  conv => lhs; unfold tokC
  rw [if_neg (by rw [sgl_zero h1]; simp), if_neg (by intro e; rcases e with e | e; exact h2 e; exact h3 e), if_neg h4, if_neg (by omega), if_neg hh, if_neg hb]
theorem dg_fin : ∀ n : Fin 128, dbus_zzNumber.f (n.val : Int) = some (decide (48 ≤ n.val ∧ n.val ≤ 57)) := by decide +kernel
theorem dg_at {c : UInt8} (h : c.toNat < 128) : dbus_zzNumber.f (c.toNat : Int) = some (decide (48 ≤ c.toNat ∧ c.toNat ≤ 57)) := dg_fin ⟨c.toNat, h⟩
/-- Where the lexer stands between two states, and how far it is from the end. -/
def StQ (K : Nat) (w0 : World) (g : Nat) (a : ByteArray) (R : List S48) (s : Value) (w' : World) (m : Nat) : Prop :=
  (s = .nilFunc ∧ m = 0 ∧ ∃ st p k, Lx w0 w' g a st p k R) ∨
  (∃ p n ts rest k, p ≤ a.size ∧ R = ts ++ rest ∧ lexF K n (a.data.toList.drop p) = some rest ∧ s = .func (.func 32) #[] #[] ∧ m = 3 * (a.size - p) + 2 ∧ Lx w0 w' g a p p k ts) ∨
  (∃ p ts rest k o c t, p ≤ a.size ∧ R = ts ++ rest ∧ a.data.toList.drop p = c :: t ∧ Left K (c :: t) rest o ∧ blankb c = false ∧ tokF K (c :: t) = some o ∧ m = 3 * (a.size - p) + 1 ∧
    ((s = .func (.func 37) #[] #[] ∧ (c = 39 ∨ c = 34) ∧ Lx w0 w' g a p p k ts) ∨ (s = .func (.func 38) #[] #[] ∧ typF K (c :: t) = some o ∧ Lx w0 w' g a p p k ts) ∨
     (s = .func (.func 42) #[] #[] ∧ numF (c :: t) = some o ∧ Lx w0 w' g a p p k ts) ∨ (s = .func (.func 44) #[] #[] ∧ c = 98 ∧ (∃ q t2, t = q :: t2 ∧ (q = 34 ∨ q = 39)) ∧ Lx w0 w' g a p (p + 1) k ts)))
def NormPost (K : Nat) (w0 : World) (g : Nat) (a : ByteArray) (R : List S48) (p0 : Nat) (e : Ending) (w' : World) : Prop := ∃ s m, e = .returned s ∧ m < 3 * (a.size - p0) + 2 ∧ StQ K w0 g a R s w' m

theorem ext_tl (a : ByteArray) (p P n : Nat) (h : p + n = P) : (a.extract p P).toList = (a.data.toList.drop p).take n := by
  rw [← h, ByteArray.toList_eq, ext_take]
theorem sgl_step {K : Nat} {w0 w' : World} {g : Nat} {a : ByteArray} {p0 p k : Nat} {R ts rest : List S48} {c : UInt8} {t : List UInt8} {V : Int} {er : ByteArray} (hR : R = ts ++ rest) (hl : a.data.toList.drop p = c :: t) (ho : Left K (c :: t) rest (some (V, 1), er)) (h0 : p0 ≤ p) (hsz : p + 1 ≤ a.size) (hx : Lx w0 w' g a (p + 1) (p + 1) k (ts ++ [⟨V, a.extract p (p + 1)⟩])) :
    ∃ (p2 k : Nat) (ts2 rest2 : List S48), p0 ≤ p2 ∧ p2 ≤ a.size ∧ Aside0 (a.size - (p + 1) = a.size - p2 ∧ Lx w0 w' g a p2 p2 k ts2 ∧ (∃ n, lexF K n (a.data.toList.drop p2) = some rest2) ∧ R = ts2 ++ rest2) := by
  obtain ⟨n, y, h1, h2⟩ := ho
  refine ⟨p + 1, k, _, y, by omega, hsz, ⟨rfl, hx, ⟨n, ?_⟩, ?_⟩⟩
  · rw [drop_tail hl]; exact h1
  · rw [hR, h2, ext_take, hl, List.append_assoc]
    rfl
theorem word_step {K : Nat} {w0 w' : World} {g : Nat} {a : ByteArray} {p0 p P k : Nat} {R ts rest : List S48} (hR : R = ts ++ rest) (ho : ∃ n y, lexF K n (a.data.toList.drop P) = some y ∧ rest = ⟨4, a.extract p P⟩ :: y) (h0 : p0 ≤ P) (hsz : P ≤ a.size) (hx : Lx w0 w' g a P P k (ts ++ [⟨4, a.extract p P⟩])) :
    ∃ (p2 k : Nat) (ts2 rest2 : List S48), p0 ≤ p2 ∧ p2 ≤ a.size ∧ Aside0 (a.size - P = a.size - p2 ∧ Lx w0 w' g a p2 p2 k ts2 ∧ (∃ n, lexF K n (a.data.toList.drop p2) = some rest2) ∧ R = ts2 ++ rest2) := by
  obtain ⟨n, y, h1, h2⟩ := ho
  refine ⟨P, k, _, y, h0, hsz, ⟨rfl, hx, ⟨n, h1⟩, ?_⟩⟩
  rw [hR, h2, List.append_assoc]
  rfl
theorem word_got {K : Nat} {a : ByteArray} {p P m : Nat} {rest : List S48} {c : UInt8} {t : List UInt8} {er : ByteArray} (hP : p + m = P) (hl : a.data.toList.drop p = c :: t) (ho : Left K (c :: t) rest (some (4, m), er)) : ∃ n y, lexF K n (a.data.toList.drop P) = some y ∧ rest = ⟨4, a.extract p P⟩ :: y := by
  obtain ⟨n, y, h1, h2⟩ := ho
  refine ⟨n, y, ?_, ?_⟩
  · rw [← hP, ← List.drop_drop, hl]; exact h1
  · rw [h2, ← hP, ext_take, hl]
theorem word_true {K : Nat} {a : ByteArray} {p P : Nat} {rest : List S48} {c : UInt8} {t : List UInt8} {o : Option (Int × Nat) × ByteArray} (hP : p + 4 = P) (hl : a.data.toList.drop p = c :: t) (htw : some o = if (c :: t).take 4 = [116, 114, 117, 101] then some (some (4, 4), ⟨#[]⟩) else if (c :: t).take 5 = [102, 97, 108, 115, 101] then some (some (4, 5), ⟨#[]⟩) else typF K (c :: t))
    (ho : Left K (c :: t) rest o) (h : (a.extract p P).toList = [116, 114, 117, 101]) : ∃ n y, lexF K n (a.data.toList.drop P) = some y ∧ rest = ⟨4, a.extract p P⟩ :: y := by
  rw [ext_tl a p P 4 hP, hl] at h
  rw [if_pos h] at htw
  obtain rfl := Option.some.inj htw
  exact word_got hP hl ho
theorem word_not4 {K : Nat} {a : ByteArray} {p P : Nat} {c : UInt8} {t : List UInt8} {o : Option (Int × Nat) × ByteArray} (hP : p + 4 = P) (hl : a.data.toList.drop p = c :: t) (htw : some o = if (c :: t).take 4 = [116, 114, 117, 101] then some (some (4, 4), ⟨#[]⟩) else if (c :: t).take 5 = [102, 97, 108, 115, 101] then some (some (4, 5), ⟨#[]⟩) else typF K (c :: t))
    (h : ¬ (a.extract p P).toList = [116, 114, 117, 101]) : some o = if (c :: t).take 5 = [102, 97, 108, 115, 101] then some (some (4, 5), ⟨#[]⟩) else typF K (c :: t) := by
  rw [ext_tl a p P 4 hP, hl] at h
  rwa [if_neg h] at htw
theorem word_short4 {K : Nat} {a : ByteArray} {p P : Nat} {c : UInt8} {t : List UInt8} {o : Option (Int × Nat) × ByteArray} (hP : p + 4 = P) (hl : a.data.toList.drop p = c :: t) (htw : some o = if (c :: t).take 4 = [116, 114, 117, 101] then some (some (4, 4), ⟨#[]⟩) else if (c :: t).take 5 = [102, 97, 108, 115, 101] then some (some (4, 5), ⟨#[]⟩) else typF K (c :: t))
    (h : ¬ P ≤ a.size) : some o = if (c :: t).take 5 = [102, 97, 108, 115, 101] then some (some (4, 5), ⟨#[]⟩) else typF K (c :: t) := by
  refine word_not4 hP hl htw fun e => ?_
  have h2 := congrArg List.length e
  rw [ext_tl a p P 4 hP, List.length_take, List.length_drop] at h2
  have h3 : a.data.toList.length = a.size := rfl
  simp at h2
  omega
theorem word_false {K : Nat} {a : ByteArray} {p P : Nat} {rest : List S48} {c : UInt8} {t : List UInt8} {o : Option (Int × Nat) × ByteArray} (hP : p + 5 = P) (hl : a.data.toList.drop p = c :: t) (htw : some o = if (c :: t).take 5 = [102, 97, 108, 115, 101] then some (some (4, 5), ⟨#[]⟩) else typF K (c :: t))
    (ho : Left K (c :: t) rest o) (h : (a.extract p P).toList = [102, 97, 108, 115, 101]) : ∃ n y, lexF K n (a.data.toList.drop P) = some y ∧ rest = ⟨4, a.extract p P⟩ :: y := by
  rw [ext_tl a p P 5 hP, hl] at h
  rw [if_pos h] at htw
  obtain rfl := Option.some.inj htw
  exact word_got hP hl ho
theorem word_not5 {K : Nat} {a : ByteArray} {p P : Nat} {c : UInt8} {t : List UInt8} {o : Option (Int × Nat) × ByteArray} (hP : p + 5 = P) (hl : a.data.toList.drop p = c :: t) (htw : some o = if (c :: t).take 5 = [102, 97, 108, 115, 101] then some (some (4, 5), ⟨#[]⟩) else typF K (c :: t))
    (h : ¬ (a.extract p P).toList = [102, 97, 108, 115, 101]) : typF K (c :: t) = some o := by
  rw [ext_tl a p P 5 hP, hl] at h
  rw [if_neg h] at htw
  exact htw.symm
theorem word_short5 {K : Nat} {a : ByteArray} {p P : Nat} {c : UInt8} {t : List UInt8} {o : Option (Int × Nat) × ByteArray} (hP : p + 5 = P) (hl : a.data.toList.drop p = c :: t) (htw : some o = if (c :: t).take 5 = [102, 97, 108, 115, 101] then some (some (4, 5), ⟨#[]⟩) else typF K (c :: t))
    (h : ¬ P ≤ a.size) : typF K (c :: t) = some o := by
  refine word_not5 hP hl htw fun e => ?_
  have h2 := congrArg List.length e
  rw [ext_tl a p P 5 hP, List.length_take, List.length_drop] at h2
  have h3 : a.data.toList.length = a.size := rfl
  simp at h2
  omega


def cB (f : Func) : Code := match f.body with
  | some c => c
  | none => .skip
def cl : Code → Code
  | .seq a _ => a
  | c => c
def cr : Code → Code
  | .seq _ b => b
  | c => c
def cb : Code → Code
  | .block _ c => c
  | c => c
def cp : Code → Code
  | .loop c => c
  | c => c
def NR (K : Nat) (w0 : World) (g : Nat) (a : ByteArray) (R : List S48) (p : Nat) (w' : World) : Prop := ∃ p2 k2 ts3 rest3, p < p2 ∧ p2 ≤ a.size ∧ Lx w0 w' g a p2 p2 k2 ts3 ∧ (∃ n, lexF K n (a.data.toList.drop p2) = some rest3) ∧ R = ts3 ++ rest3
/-- What is to be shown of the loop's next round. -/
def KOk (K : Nat) (w0 : World) (g : Nat) (a : ByteArray) (R : List S48) (p : Nat) (Kx : Act → World → Prop) : Prop := ∀ (u2 u3 u4 u5 u6 u7 u8 u9 u10 u11 u12 u13 u14 u15 u16 u17 u18 u19 u20 u21 u22 u23 u24 u25 u26 u27 u28 u29 u30 u31 u32 u33 u34 u35 u36 u37 u38 u39 u40 u41 u42 u43 u44 u45 u46 u47 u48 u49 u50 u51 u52 u53 u54 u55 u56 u57 u58 u59 u60 u61 u62 u63 u64 u65 u66 u67 u68 u69 u70 u71 u72 u73 u74 u75 u76 u77 u78 u79 u80 u81 u82 u83 u84 u85 u86 u87 u88 u89 u90 u91 u92 u93 u94 u95 u96 u97 u98 u99 u100 u101 u102 u103 u104 u105 u106 u107 u108 u109 u110 u111 u112 u113 u114 u115 u116 u117 u118 u119 u120 u121 u122 u123 u124 u125 u126 u127 u128 u129 u130 u131 u132 u133 u134 u135 u136 u137 u138 u139 u140 u141 u142 u143 u144 u145 u146 u147 u148 u149 u150 u151 u152 u153 u154 u155 u156 u157 u158 u159 u160 u161 u162 u163 u164 u165 u166 u167 u168 u169 u170 u171 u172 u173 u174 u175 u176 u177 u178 u179 : Value) (w' : World), NR K w0 g a R p w' → Kx ⟨List.toArray (.pointer (some ⟨g, 0, none⟩)::undef::u2::u3::u4::u5::u6::u7::u8::u9::u10::u11::u12::u13::u14::u15::u16::u17::u18::u19::u20::u21::u22::u23::u24::u25::u26::u27::u28::u29::u30::u31::u32::u33::u34::u35::u36::u37::u38::u39::u40::u41::u42::u43::u44::u45::u46::u47::u48::u49::u50::u51::u52::u53::u54::u55::u56::u57::u58::u59::u60::u61::u62::u63::u64::u65::u66::u67::u68::u69::u70::u71::u72::u73::u74::u75::u76::u77::u78::u79::u80::u81::u82::u83::u84::u85::u86::u87::u88::u89::u90::u91::u92::u93::u94::u95::u96::u97::u98::u99::u100::u101::u102::u103::u104::u105::u106::u107::u108::u109::u110::u111::u112::u113::u114::u115::u116::u117::u118::u119::u120::u121::u122::u123::u124::u125::u126::u127::u128::u129::u130::u131::u132::u133::u134::u135::u136::u137::u138::u139::u140::u141::u142::u143::u144::u145::u146::u147::u148::u149::u150::u151::u152::u153::u154::u155::u156::u157::u158::u159::u160::u161::u162::u163::u164::u165::u166::u167::u168::u169::u170::u171::u172::u173::u174::u175::u176::u177::u178::u179::[]), []⟩ w'
theorem KOk.go {K : Nat} {w0 w' : World} {g : Nat} {a : ByteArray} {R : List S48} {p : Nat} {Kx : Act → World → Prop} {u2 u3 u4 u5 u6 u7 u8 u9 u10 u11 u12 u13 u14 u15 u16 u17 u18 u19 u20 u21 u22 u23 u24 u25 u26 u27 u28 u29 u30 u31 u32 u33 u34 u35 u36 u37 u38 u39 u40 u41 u42 u43 u44 u45 u46 u47 u48 u49 u50 u51 u52 u53 u54 u55 u56 u57 u58 u59 u60 u61 u62 u63 u64 u65 u66 u67 u68 u69 u70 u71 u72 u73 u74 u75 u76 u77 u78 u79 u80 u81 u82 u83 u84 u85 u86 u87 u88 u89 u90 u91 u92 u93 u94 u95 u96 u97 u98 u99 u100 u101 u102 u103 u104 u105 u106 u107 u108 u109 u110 u111 u112 u113 u114 u115 u116 u117 u118 u119 u120 u121 u122 u123 u124 u125 u126 u127 u128 u129 u130 u131 u132 u133 u134 u135 u136 u137 u138 u139 u140 u141 u142 u143 u144 u145 u146 u147 u148 u149 u150 u151 u152 u153 u154 u155 u156 u157 u158 u159 u160 u161 u162 u163 u164 u165 u166 u167 u168 u169 u170 u171 u172 u173 u174 u175 u176 u177 u178 u179 : Value} (h : KOk K w0 g a R p Kx) (hn : NR K w0 g a R p w') : Kx ⟨List.toArray (.pointer (some ⟨g, 0, none⟩)::undef::u2::u3::u4::u5::u6::u7::u8::u9::u10::u11::u12::u13::u14::u15::u16::u17::u18::u19::u20::u21::u22::u23::u24::u25::u26::u27::u28::u29::u30::u31::u32::u33::u34::u35::u36::u37::u38::u39::u40::u41::u42::u43::u44::u45::u46::u47::u48::u49::u50::u51::u52::u53::u54::u55::u56::u57::u58::u59::u60::u61::u62::u63::u64::u65::u66::u67::u68::u69::u70::u71::u72::u73::u74::u75::u76::u77::u78::u79::u80::u81::u82::u83::u84::u85::u86::u87::u88::u89::u90::u91::u92::u93::u94::u95::u96::u97::u98::u99::u100::u101::u102::u103::u104::u105::u106::u107::u108::u109::u110::u111::u112::u113::u114::u115::u116::u117::u118::u119::u120::u121::u122::u123::u124::u125::u126::u127::u128::u129::u130::u131::u132::u133::u134::u135::u136::u137::u138::u139::u140::u141::u142::u143::u144::u145::u146::u147::u148::u149::u150::u151::u152::u153::u154::u155::u156::u157::u158::u159::u160::u161::u162::u163::u164::u165::u166::u167::u168::u169::u170::u171::u172::u173::u174::u175::u176::u177::u178::u179::[]), []⟩ w' := h u2 u3 u4 u5 u6 u7 u8 u9 u10 u11 u12 u13 u14 u15 u16 u17 u18 u19 u20 u21 u22 u23 u24 u25 u26 u27 u28 u29 u30 u31 u32 u33 u34 u35 u36 u37 u38 u39 u40 u41 u42 u43 u44 u45 u46 u47 u48 u49 u50 u51 u52 u53 u54 u55 u56 u57 u58 u59 u60 u61 u62 u63 u64 u65 u66 u67 u68 u69 u70 u71 u72 u73 u74 u75 u76 u77 u78 u79 u80 u81 u82 u83 u84 u85 u86 u87 u88 u89 u90 u91 u92 u93 u94 u95 u96 u97 u98 u99 u100 u101 u102 u103 u104 u105 u106 u107 u108 u109 u110 u111 u112 u113 u114 u115 u116 u117 u118 u119 u120 u121 u122 u123 u124 u125 u126 u127 u128 u129 u130 u131 u132 u133 u134 u135 u136 u137 u138 u139 u140 u141 u142 u143 u144 u145 u146 u147 u148 u149 u150 u151 u152 u153 u154 u155 u156 u157 u158 u159 u160 u161 u162 u163 u164 u165 u166 u167 u168 u169 u170 u171 u172 u173 u174 u175 u176 u177 u178 u179 w' hn
theorem nx_end {l : List UInt8} {r : Int} {k : Nat} (h : Nx l r k) (hl : l = []) : r = -1 ∧ k = 0 := by
  rcases h with ⟨_, h1, h2⟩ | ⟨c1, t1, e1, _⟩ | ⟨c1, t1, e1, _⟩
  · exact ⟨h1, h2⟩
  · rw [hl] at e1; cases e1
  · rw [hl] at e1; cases e1
theorem sgl_nr {K : Nat} {w0 w' : World} {g : Nat} {a : ByteArray} {p k : Nat} {R ts rest : List S48} {c : UInt8} {t : List UInt8} {V : Int} {er : ByteArray} (hR : R = ts ++ rest) (hl : a.data.toList.drop p = c :: t) (ho : Left K (c :: t) rest (some (V, 1), er)) (hsz : p + 1 ≤ a.size) (hx : Lx w0 w' g a (p + 1) (p + 1) k (ts ++ [⟨V, a.extract p (p + 1)⟩])) : NR K w0 g a R p w' := by
  obtain ⟨n, y, h1, h2⟩ := ho
  refine ⟨p + 1, k, _, y, by omega, hsz, hx, ⟨n, ?_⟩, ?_⟩
  · rw [drop_tail hl]; exact h1
  · rw [hR, h2, ext_take, hl, List.append_assoc]
    rfl
theorem word_nr {K : Nat} {w0 w' : World} {g : Nat} {a : ByteArray} {p P k : Nat} {R ts rest : List S48} (hR : R = ts ++ rest) (ho : ∃ n y, lexF K n (a.data.toList.drop P) = some y ∧ rest = ⟨4, a.extract p P⟩ :: y) (h0 : p < P) (hsz : P ≤ a.size) (hx : Lx w0 w' g a P P k (ts ++ [⟨4, a.extract p P⟩])) : NR K w0 g a R p w' := by
  obtain ⟨n, y, h1, h2⟩ := ho
  refine ⟨P, k, _, y, h0, hsz, hx, ⟨n, h1⟩, ?_⟩
  rw [hR, h2, List.append_assoc]
  rfl


end Go.Proofs.YthcafnmagidpiaaDoor.MFnVtTokens
