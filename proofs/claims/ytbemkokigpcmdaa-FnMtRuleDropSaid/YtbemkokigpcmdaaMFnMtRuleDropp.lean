/- What the options of a match rule are tested for, and what the program writes of them: plain lists. -/
import Derived.Test.YtbemkokigpcmdaaMFnMtRuleDropx7
import Derived.Test.YtbemkokigpcmdaaHlp
import Derived.Lib.Join
namespace Go.Proofs.Ytbemkokigpcmdaa.MFnMtRuleDropp
open Go Go.RowKit Go.Proofs.Ytbemkokigpcmdaa.MFnMtRuleDrop Go.Proofs.YtbemkokigpcmdaaW.PrintWords Go.Proofs.YtbemkokigpcmdaaW.PrintLast Go.Proofs.Ytbemkokigpcmdaa.Hlp
set_option linter.unusedVariables false

theorem rd28 (l : List S28) (i : Nat) (h : i < l.length) : rd_T28 l (i : Int) = l[i] := by simp [rd_T28, List.getD, h]
theorem rd37 (l : List S37) (i : Nat) (h : i < l.length) : rd_T37 l (i : Int) = l[i] := by simp [rd_T37, List.getD, h]
theorem upI (i : Nat) (h : i ≤ 2147483647) : wrap64 ((i : Int) + 1) = ((i + 1 : Nat) : Int) := by rw [w64 (by omega) (by omega)]; omega

/-! ### The sizes -/
theorem fits_loop (l : List S28) (hl : l.length ≤ 2147483647) : ∀ (d i : Nat), d = l.length - i → i ≤ l.length → ∃ r, Ev (fun k => laws_zzFits3.l0 k l (l.length : Int) (i : Int)) r
  | 0, i, hd, hi => ⟨true, Ev.step (f := fun _ => some true) (fun k => by simp only [laws_zzFits3.l0]; rw [if_neg (by omega)]) (Ev.now _)⟩
  | d + 1, i, hd, hi => by
    have hin : i < l.length := by omega
    obtain ⟨r, hr⟩ := fits_loop l hl d (i + 1) (by omega) (by omega)
    by_cases hf : (Fit l[i].f0 && Fit l[i].f1) = true
    · refine ⟨r, Ev.step (fun k => ?_) hr⟩
      simp only [laws_zzFits3.l0]
      rw [if_pos (by omega), if_pos (by omega), if_pos (by omega), rd28 l i hin, upI i (by omega)]
      unfold laws_zzFits4.f
      rw [hf, Option.bind_some, if_pos rfl]
    · refine ⟨false, Ev.step (f := fun _ => some false) (fun k => ?_) (Ev.now _)⟩
      simp only [laws_zzFits3.l0]
      rw [if_pos (by omega), if_pos (by omega), if_pos (by omega), rd28 l i hin]
      unfold laws_zzFits4.f
      rw [Bool.eq_false_iff.mpr hf, Option.bind_some, if_neg (by decide)]
theorem fits (l : List S28) : ∃ r, Ev (fun k => laws_zzFits3.f k l) r ∧ (r = true → l.length ≤ 2147483647) := by
  by_cases h : (l.length : Int) > 2147483647
  · exact ⟨false, Ev.congr (fun k => by unfold laws_zzFits3.f; rw [if_pos h]) (Ev.now _), fun h => by cases h⟩
  · obtain ⟨r, hr⟩ := fits_loop l (by omega) l.length 0 (by omega) (by omega)
    exact ⟨r, Ev.congr (fun k => by unfold laws_zzFits3.f; rw [if_neg h]; rfl) hr, fun _ => by omega⟩

/-! ### Plain ones -/
/-- A key: no '=', no ',', no apostrophe; a value: no apostrophe. -/
def KeyOk (s : ByteArray) : Prop := s.size ≤ 300 ∧ ∀ j : Nat, j < s.size → bt s j ≠ 61 ∧ bt s j ≠ 44 ∧ bt s j ≠ 39
def ValOk (s : ByteArray) : Prop := s.size ≤ 300 ∧ ∀ j : Nat, j < s.size → bt s j ≠ 39
def Ok (t : S28) : Prop := KeyOk t.f0 ∧ ValOk t.f1

theorem plain_val (l : List S28) (i : Nat) (a b : ByteArray) (hi : i ≤ 2147483647) (hb : b.size ≤ 300) (r0 : Bool) (h0 : Ev (fun k => laws_mtPlain.l0 k l l (l.length : Int) ((i + 1 : Nat) : Int)) r0) :
    ∀ (d j : Nat), d = b.size - j → j ≤ b.size → ∃ r, Ev (fun k => laws_mtPlain.l2 k l (j : Int) l (l.length : Int) (i : Int) a b) r ∧ (r = true → r0 = true ∧ ∀ m : Nat, j ≤ m → m < b.size → bt b m ≠ 39)
  | 0, j, hd, hj => ⟨r0, Ev.step (fun k => by simp only [laws_mtPlain.l2]; rw [if_neg (by omega), upI i hi]) h0, fun h => ⟨h, fun m h1 h2 => by omega⟩⟩
  | d + 1, j, hd, hj => by
    obtain ⟨r, hr, hr2⟩ := plain_val l i a b hi hb r0 h0 d (j + 1) (by omega) (by omega)
    by_cases h : bt b (j : Int) = 39
    · exact ⟨false, Ev.step (f := fun _ => some false) (fun k => by simp only [laws_mtPlain.l2]; rw [if_pos (by omega), if_pos (by omega), if_pos h]) (Ev.now _), fun h => by cases h⟩
    · refine ⟨r, Ev.step (fun k => by simp only [laws_mtPlain.l2]; rw [if_pos (by omega), if_pos (by omega), if_neg h, upI j (by omega)]) hr, fun h' => ⟨(hr2 h').1, fun m h1 h2 => ?_⟩⟩
      rcases Nat.lt_or_ge j m with h3 | h3
      · exact (hr2 h').2 m h3 h2
      · have : m = j := by omega
        subst this; exact h
theorem plain_key (l : List S28) (i : Nat) (a b : ByteArray) (hi : i ≤ 2147483647) (ha : a.size ≤ 300) (hb : b.size ≤ 300) (r0 : Bool) (h0 : Ev (fun k => laws_mtPlain.l0 k l l (l.length : Int) ((i + 1 : Nat) : Int)) r0) :
    ∀ (d j : Nat), d = a.size - j → j ≤ a.size → ∃ r, Ev (fun k => laws_mtPlain.l1 k l (j : Int) l (l.length : Int) (i : Int) a b) r ∧ (r = true → r0 = true ∧ (∀ m : Nat, j ≤ m → m < a.size → bt a m ≠ 61 ∧ bt a m ≠ 44 ∧ bt a m ≠ 39) ∧ ∀ m : Nat, m < b.size → bt b m ≠ 39)
  | 0, j, hd, hj => by
    obtain ⟨r, hr, hr2⟩ := plain_val l i a b hi hb r0 h0 b.size 0 (by omega) (by omega)
    exact ⟨r, Ev.step (fun k => by simp only [laws_mtPlain.l1]; rw [if_neg (by omega)]; rfl) hr, fun h => ⟨(hr2 h).1, fun m h1 h2 => by omega, fun m h2 => (hr2 h).2 m (by omega) h2⟩⟩
  | d + 1, j, hd, hj => by
    obtain ⟨r, hr, hr2⟩ := plain_key l i a b hi ha hb r0 h0 d (j + 1) (by omega) (by omega)
    by_cases h1 : bt a (j : Int) = 61
    · exact ⟨false, Ev.step (f := fun _ => some false) (fun k => by simp only [laws_mtPlain.l1]; rw [if_pos (by omega), if_pos (by omega), if_pos h1]) (Ev.now _), fun h => by cases h⟩
    by_cases h2 : bt a (j : Int) = 44
    · exact ⟨false, Ev.step (f := fun _ => some false) (fun k => by simp only [laws_mtPlain.l1]; rw [if_pos (by omega), if_pos (by omega), if_neg h1, if_pos h2]) (Ev.now _), fun h => by cases h⟩
    by_cases h3 : bt a (j : Int) = 39
    · exact ⟨false, Ev.step (f := fun _ => some false) (fun k => by simp only [laws_mtPlain.l1]; rw [if_pos (by omega), if_pos (by omega), if_neg h1, if_neg h2, if_pos h3]) (Ev.now _), fun h => by cases h⟩
    refine ⟨r, Ev.step (fun k => by simp only [laws_mtPlain.l1]; rw [if_pos (by omega), if_pos (by omega), if_neg h1, if_neg h2, if_neg h3, upI j (by omega)]) hr, fun h' => ⟨(hr2 h').1, fun m h4 h5 => ?_, (hr2 h').2.2⟩⟩
    rcases Nat.lt_or_ge j m with h6 | h6
    · exact (hr2 h').2.1 m h6 h5
    · have : m = j := by omega
      subst this; exact ⟨h1, h2, h3⟩
theorem plain_loop (l : List S28) (hl : l.length ≤ 2147483647) : ∀ (d i : Nat), d = l.length - i → i ≤ l.length →
    ∃ r, Ev (fun k => laws_mtPlain.l0 k l l (l.length : Int) (i : Int)) r ∧ (r = true → l.length ≤ 40 ∧ ∀ j (h : j < l.length), i ≤ j → Ok l[j])
  | 0, i, hd, hi => ⟨decide ((l.length : Int) ≤ 40), Ev.step (f := fun _ => some (decide ((l.length : Int) ≤ 40))) (fun k => by simp only [laws_mtPlain.l0]; rw [if_neg (by omega)]) (Ev.now _), fun h => ⟨by have := of_decide_eq_true h; omega, fun j h1 h2 => by omega⟩⟩
  | d + 1, i, hd, hi => by
    have hin : i < l.length := by omega
    obtain ⟨r0, h0, hr0⟩ := plain_loop l hl d (i + 1) (by omega) (by omega)
    have no : Ev (fun k => laws_mtPlain.j1 k l l (l.length : Int) (i : Int) true l[i].f0 l[i].f1) false := Ev.step (f := fun _ => some false) (fun k => by simp only [laws_mtPlain.j1]; rw [if_pos trivial]) (Ev.now _)
    by_cases h1 : (l[i].f0.size : Int) > 300
    · refine ⟨false, Ev.step (fun k => ?_) no, fun h => by cases h⟩
      simp only [laws_mtPlain.l0]
      rw [if_pos (by omega), if_pos (by omega), if_pos (by omega), rd28 l i hin, if_pos h1]
    by_cases h2 : (l[i].f1.size : Int) > 300
    · refine ⟨false, Ev.step (fun k => ?_) no, fun h => by cases h⟩
      simp only [laws_mtPlain.l0]
      rw [if_pos (by omega), if_pos (by omega), if_pos (by omega), rd28 l i hin, if_neg h1, decide_eq_true h2]
    obtain ⟨r, hr, hr2⟩ := plain_key l i l[i].f0 l[i].f1 (by omega) (by omega) (by omega) r0 h0 l[i].f0.size 0 (by omega) (by omega)
    refine ⟨r, Ev.step (fun k => ?_) (Ev.step (g := fun k => laws_mtPlain.j1 k l l (l.length : Int) (i : Int) false l[i].f0 l[i].f1) (fun k => ?_) hr), fun h => ?_⟩
    · simp only [laws_mtPlain.l0]
      rw [if_pos (by omega), if_pos (by omega), if_pos (by omega), rd28 l i hin, if_neg h1, decide_eq_false h2]
    · simp only [laws_mtPlain.j1]
      rw [if_neg (by decide)]; rfl
    · obtain ⟨q0, q1, q2⟩ := hr2 h
      refine ⟨(hr0 q0).1, fun j hj hij => ?_⟩
      rcases Nat.lt_or_ge i j with h6 | h6
      · exact (hr0 q0).2 j hj h6
      · have : j = i := by omega
        subst this
        exact ⟨⟨by omega, fun m hm => q1 m (by omega) hm⟩, by omega, q2⟩
/-- Plain options. -/
def Plain (l : List S28) : Prop := l.length ≤ 40 ∧ ∀ t ∈ l, Ok t
theorem plain (l : List S28) (hl : l.length ≤ 2147483647) : ∃ r, Ev (fun k => laws_mtPlain.f k l) r ∧ (r = true → Plain l) := by
  obtain ⟨r, hr, h⟩ := plain_loop l hl l.length 0 (by omega) (by omega)
  refine ⟨r, hr, fun h' => ⟨(h h').1, fun t ht => ?_⟩⟩
  obtain ⟨j, hj, rfl⟩ := List.mem_iff_getElem.1 ht
  exact (h h').2 j hj (by omega)

/-! ### What is written -/
/-- A term. -/
def term (t : S28) : List UInt8 := bl t.f0 ++ [61, 39] ++ bl t.f1 ++ [39]
def termB (t : S28) : ByteArray := ((t.f0 ++ (⟨#[61, 39]⟩ : ByteArray)) ++ t.f1) ++ (⟨#[39]⟩ : ByteArray)
theorem bl_termB (t : S28) : bl (termB t) = term t := by simp [termB, term, bl_append]; rfl
theorem term_len (t : S28) (h : Ok t) : (term t).length ≤ 603 := by
  have h1 := h.1.1
  have h2 := h.2.1
  simp only [term, List.length_append, bl_len, List.length_cons, List.length_nil]
  omega
/-- A rule. -/
def rule (l : List S28) : List UInt8 := Lib.join (l.map term) [44]
theorem join_len (ls : List (List UInt8)) (h : ∀ x ∈ ls, x.length ≤ 603) : (Lib.join ls [44]).length ≤ 604 * ls.length := by
  rcases ls with _ | ⟨x, r⟩
  · simp [Lib.join_nil]
  · rw [Lib.join_cons, List.length_append, Lib.joinTail_length]
    have h1 : Lib.lens r ≤ 603 * r.length := by
      have : ∀ q : List (List UInt8), (∀ y ∈ q, y.length ≤ 603) → Lib.lens q ≤ 603 * q.length := by
        intro q hq
        induction q with
        | nil => simp [Lib.lens]
        | cons y q ih =>
          have := ih (fun z hz => hq z (List.mem_cons_of_mem _ hz))
          have h2 := hq y List.mem_cons_self
          simp only [Lib.lens, List.map_cons, List.sum_cons, List.length_cons] at this ⊢
          omega
      exact this r fun y hy => h y (List.mem_cons_of_mem _ hy)
    have h2 := h x List.mem_cons_self
    simp only [List.length_cons, List.length_nil]
    omega
theorem join_snoc (ls : List (List UInt8)) (x : List UInt8) (h : ls ≠ []) : Lib.join (ls ++ [x]) [44] = Lib.join ls [44] ++ [44] ++ x := by
  rcases ls with _ | ⟨y, r⟩
  · exact absurd rfl h
  · rw [List.cons_append, Lib.join_cons, Lib.join_cons]
    simp [Lib.joinTail, List.append_assoc]

def to37 (t : S28) : S37 := ⟨t.f0, t.f1⟩
theorem rule_len (l : List S28) (h : Plain l) : (rule l).length ≤ 24160 := by
  have := join_len (l.map term) (fun x hx => by obtain ⟨t, ht, rfl⟩ := List.mem_map.1 hx; exact term_len t (h.2 t ht))
  have h1 := h.1
  rw [List.length_map] at this
  unfold rule
  omega
theorem join_f (l : List S28) (h : Plain l) : strings_Join.f (l.map termB) (⟨#[44]⟩ : ByteArray) = some ⟨(rule l).toArray⟩ := by
  have e : joined (l.map termB) (⟨#[44]⟩ : ByteArray) = rule l := by
    unfold joined rule
    rw [List.map_map]
    rw [show (l.map ((fun x : ByteArray => x.data.toList) ∘ termB)) = l.map term from List.map_congr_left fun t _ => bl_termB t]
  have hl := rule_len l h
  have h1 := h.1
  unfold strings_Join.f
  rw [e, if_pos (by rw [List.length_map]; omega), if_pos (by omega)]
theorem fmt_loop (l : List S28) (h : Plain l) : ∀ (d i : Nat), d = l.length - i → i ≤ l.length →
    Ev (fun k => dbus_formatMatchOptions.l0 k ((l.take i).map termB) (l.map to37) (l.length : Int) (i : Int)) ⟨(rule l).toArray⟩
  | 0, i, hd, hi => by
    refine Ev.step (f := fun _ => some _) (fun k => ?_) (Ev.now _)
    simp only [dbus_formatMatchOptions.l0]
    rw [if_neg (by omega), List.take_of_length_le (by omega), join_f l h]
    rfl
  | d + 1, i, hd, hi => by
    have hin : i < l.length := by omega
    have h1 := h.1
    have ho := h.2 l[i] (List.getElem_mem hin)
    have ha := ho.1.1
    have hb := ho.2.1
    refine Ev.step (fun k => ?_) (fmt_loop l h d (i + 1) (by omega) (by omega))
    have er : rd_T37 (l.map to37) (i : Int) = to37 l[i] := by rw [rd37 _ i (by simpa using hin)]; simp
    have ef : (to37 l[i]).f0 = l[i].f0 := rfl
    have eg : (to37 l[i]).f1 = l[i].f1 := rfl
    have s1 : (⟨#[61, 39]⟩ : ByteArray).size = 2 := rfl
    simp only [dbus_formatMatchOptions.l0, er, ef, eg]
    rw [if_pos (by omega), if_pos (by omega), if_pos (by rw [List.length_map]; omega), if_pos (by omega), if_pos (by rw [ByteArray.size_append, s1]; omega), if_pos (by rw [ByteArray.size_append, ByteArray.size_append, s1]; omega),
      if_pos (by rw [List.length_map, List.length_take]; omega), upI i (by omega), List.take_succ_eq_append_getElem hin, List.map_append]
    rfl
theorem impl_loop (l : List S28) (h : Plain l) : ∀ (d i : Nat), d = l.length - i → i ≤ l.length →
    Ev (fun k => impl_MtRule.l0 k ((l.take i).map to37) l (l.length : Int) (i : Int)) ⟨(rule l).toArray⟩
  | 0, i, hd, hi => by
    have h1 := h.1
    have hf := fmt_loop l h l.length 0 (by omega) (by omega)
    refine Ev.step (fun k => ?_) (Ev.bind (Ev.bind hf (Ev.now _)) (Ev.now _))
    simp only [impl_MtRule.l0]
    rw [if_neg (by omega), List.take_of_length_le (by omega)]
    unfold dbus_DoorRule.f dbus_formatMatchOptions.f
    rw [if_pos (by rw [List.length_map]; omega), List.length_map]
    rfl
  | d + 1, i, hd, hi => by
    have hin : i < l.length := by omega
    have h1 := h.1
    refine Ev.step (fun k => ?_) (impl_loop l h d (i + 1) (by omega) (by omega))
    simp only [impl_MtRule.l0]
    rw [if_pos (by omega), if_pos (by omega), if_pos (by omega), rd28 l i hin]
    unfold dbus_WithMatchOption.f
    rw [Option.bind_some, if_pos (by rw [List.length_map, List.length_take]; omega), upI i (by omega), List.take_succ_eq_append_getElem hin, List.map_append]
    rfl
/-- The program's rule of plain options. -/
theorem impl_rule (l : List S28) (h : Plain l) : Ev (fun k => impl_MtRule.f k l) ⟨(rule l).toArray⟩ := impl_loop l h l.length 0 (by omega) (by omega)
end Go.Proofs.Ytbemkokigpcmdaa.MFnMtRuleDropp
