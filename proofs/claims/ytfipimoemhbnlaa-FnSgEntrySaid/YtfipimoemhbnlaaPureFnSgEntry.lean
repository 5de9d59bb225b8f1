/- "a{", a byte, a text and "}" are a signature just if the byte is a basic type's letter and the text one complete type with at most 31 arrays about each type in it. -/
import Derived.Test.YtfipimoemhbnlaaMFnSgEntryy
import Derived.Test.YtfipimoemhbnlaaMFnSgEntryp
import Derived.Test.YtfipimoemhbnlaaMFnSgEntryl
import Derived.OpenShut
namespace Go.Proofs.Ytfipimoemhbnlaa.Pure
open Go Go.RowKit Go.Proofs.Ytfipimoemhbnlaa.MFnSgEntry Go.Proofs.YtfipimoemhbnlaaW.PrintWords Go.Proofs.YtfipimoemhbnlaaW.PrintLast Go.Proofs.YtfipimoemhbnlaaW.PrintMore Go.Proofs.Ytfipimoemhbnlaa.Hlp Go.Proofs.Ytfipimoemhbnlaa.SgT Go.Proofs.Ytfipimoemhbnlaa.MFnSgEntryi Go.Proofs.Ytfipimoemhbnlaa.MFnSgEntryt Go.Proofs.Ytfipimoemhbnlaa.MFnSgEntryp Go.Proofs.Ytfipimoemhbnlaa.MFnSgEntryl Go.Proofs.Ytfipimoemhbnlaa.MFnSgEntryy
set_option linter.unusedVariables false

theorem wj (i : Nat) (h : i ≤ 1000000000) : wrap64 ((i : Int) + 1) = ((i + 1 : Nat) : Int) := w64 (by omega) (by omega)
theorem wk (n : Nat) (h : n ≤ 1000000000) (h0 : n ≠ 0) : wrap64 ((n : Int) - 1) = ((n - 1 : Nat) : Int) := by rw [w64 (by omega) (by omega)]; omega

/-! The look whether brackets and braces close. -/
/-- At an opening one. -/
theorem c_open {s : ByteArray} (hs : s.size ≤ 1000000000) {i : Nat} {c : UInt8} {z : List UInt8} (hc : (bl s).drop i = c :: z) (h : c = 40 ∨ c = 123) (st : List Int) (hst : st.length ≤ i) (k : Nat) :
    laws_sgClosed.l0 (k + 2) s st (i : Int) = laws_sgClosed.l0 k s (st ++ [(c.toNat : Int)]) ((i + 1 : Nat) : Int) := by
  have hlt := drop_lt hc
  have hb := bt_drop hc
  have e : laws_sgClosed.l0 (k + 2) s st (i : Int) = laws_sgClosed.j1 (k + 1) s st (i : Int) (bt s i) true := by
    simp only [laws_sgClosed.l0]
    rw [if_pos (by omega), if_pos (by omega), hb]
    rcases h with rfl | rfl
    · rw [if_pos (by rfl)]; rfl
    · rw [if_neg (by decide)]; rfl
  rw [e]
  simp only [laws_sgClosed.j1]
  rw [if_pos trivial, if_pos (by omega), if_pos (by omega), if_pos (by omega), wj i (by omega), hb]
theorem c_mid {s : ByteArray} (hs : s.size ≤ 1000000000) {i : Nat} {c : UInt8} {z : List UInt8} (hc : (bl s).drop i = c :: z) (h1 : c ≠ 40) (h2 : c ≠ 123) (st : List Int) (k : Nat) :
    laws_sgClosed.l0 (k + 2) s st (i : Int) = laws_sgClosed.j2 k s st (i : Int) (c == 41 || c == 125) := by
  have hlt := drop_lt hc
  have hb := bt_drop hc
  have e : laws_sgClosed.l0 (k + 2) s st (i : Int) = laws_sgClosed.j1 (k + 1) s st (i : Int) (bt s i) false := by
    simp only [laws_sgClosed.l0]
    rw [if_pos (by omega), if_pos (by omega), hb, if_neg (show ¬ (c.toNat : Int) = 40 from fun q => h1 ((num_eq 40).mp q))]
    congr 1
    rw [beq_eq_false_iff_ne]
    exact fun q => h2 ((num_eq 123).mp q)
  rw [e]
  simp only [laws_sgClosed.j1]
  rw [if_neg (by decide), hb]
  by_cases h41 : c = 41
  · subst h41; rw [if_pos (by rfl)]; rfl
  · rw [if_neg (show ¬ (c.toNat : Int) = 41 from fun q => h41 ((num_eq 41).mp q))]
    congr 1
    rw [beq_eq_false_iff_ne.mpr h41, Bool.false_or, Bool.eq_iff_iff, beq_iff_eq, beq_iff_eq]
    exact num_eq 125
/-- A word is gone over with the stack as it was. -/
def Cl (x : List UInt8) : Prop := ∀ (s : ByteArray) (pos : Nat) (st : List Int) (z : List UInt8) (res : Bool), s.size ≤ 1000000000 → st.length ≤ pos → (bl s).drop pos = x ++ z →
  Ev (fun k => laws_sgClosed.l0 k s st ((pos + x.length : Nat) : Int)) res → Ev (fun k => laws_sgClosed.l0 k s st (pos : Int)) res
theorem Cl.nil : Cl [] := fun s pos st z res _ _ _ h => h
theorem Cl.app {x y : List UInt8} (hx : Cl x) (hy : Cl y) : Cl (x ++ y) := by
  intro s pos st z res hs hst hb hr
  refine hx s pos st (y ++ z) res hs hst (by rw [hb, List.append_assoc]) ?_
  refine hy s (pos + x.length) st z res hs (by omega) ?_ ?_
  · rw [← List.drop_drop, hb, List.append_assoc, List.drop_left]
  · rw [List.length_append] at hr; rw [Nat.add_assoc]; exact hr
theorem Cl.one {c : UInt8} (h1 : c ≠ 40) (h2 : c ≠ 123) (h3 : c ≠ 41) (h4 : c ≠ 125) : Cl [c] := by
  intro s pos st z res hs hst hb hr
  have hlt := drop_lt (c := c) (r := z) hb
  refine Ev.step (f := fun k => laws_sgClosed.l0 (k + 1) s st (pos : Int)) (fun k => rfl) (Ev.step (f := fun k => laws_sgClosed.j2 k s st (pos : Int) false) (fun k => ?_) (Ev.step (fun k => ?_) hr))
  · rw [c_mid hs hb h1 h2 st k, beq_eq_false_iff_ne.mpr h3, beq_eq_false_iff_ne.mpr h4]; rfl
  · simp only [laws_sgClosed.j2]; rw [if_neg (by decide), wj pos (by omega)]; rfl
theorem rd_last (st : List Int) (o : Int) : rd (st ++ [o]) ((st.length : Nat) : Int) = o := by
  unfold rd
  simp [List.getD_eq_getElem?_getD]
theorem Cl.wrap {o c : UInt8} (h : o = 40 ∧ c = 41 ∨ o = 123 ∧ c = 125) {y : List UInt8} (hy : Cl y) : Cl (o :: (y ++ [c])) := by
  intro s pos st z res hs hst hb hr
  have hlt := drop_lt hb
  have ho : o = 40 ∨ o = 123 := by rcases h with ⟨h, _⟩ | ⟨h, _⟩ <;> simp [h]
  have hb1 : (bl s).drop (pos + 1) = y ++ (c :: z) := by rw [drop_succ hb]; simp
  have hb2 : (bl s).drop (pos + 1 + y.length) = c :: z := by rw [← List.drop_drop, hb1, List.drop_left]
  have hlt2 := drop_lt hb2
  refine Ev.step (f := fun k => laws_sgClosed.l0 (k + 1) s st (pos : Int)) (fun k => rfl) (Ev.step (f := fun k => laws_sgClosed.l0 k s (st ++ [(o.toNat : Int)]) ((pos + 1 : Nat) : Int)) (fun k => c_open hs hb ho st hst k) ?_)
  refine hy s (pos + 1) (st ++ [(o.toNat : Int)]) (c :: z) res hs (by simp; omega) hb1 ?_
  refine Ev.step (f := fun k => laws_sgClosed.l0 (k + 1) s (st ++ [(o.toNat : Int)]) ((pos + 1 + y.length : Nat) : Int)) (fun k => rfl) (Ev.step (f := fun k => laws_sgClosed.j2 k s (st ++ [(o.toNat : Int)]) ((pos + 1 + y.length : Nat) : Int) true) (fun k => ?_) (Ev.step (fun k => ?_) hr))
  · rw [c_mid hs hb2 (by rcases h with ⟨_, h⟩ | ⟨_, h⟩ <;> subst h <;> decide) (by rcases h with ⟨_, h⟩ | ⟨_, h⟩ <;> subst h <;> decide) _ k]
    rcases h with ⟨_, rfl⟩ | ⟨_, rfl⟩ <;> rfl
  · have hl : (st ++ [(o.toNat : Int)]).length = st.length + 1 := by simp
    have e1 : wrap64 (((st ++ [(o.toNat : Int)]).length : Int) - 1) = ((st.length : Nat) : Int) := by rw [hl, wk (st.length + 1) (by omega) (by omega)]; rfl
    simp only [laws_sgClosed.j2]
    rw [if_pos trivial, if_neg (by rw [hl]; omega), e1, if_pos (by omega), if_pos (by rw [hl]; omega), if_pos (by omega), if_pos (by omega), rd_last, bt_drop hb2, if_neg, if_pos (by rw [hl]; omega), wj (pos + 1 + y.length) (by omega), Int.toNat_natCast, List.take_left]
    · congr 2; simp only [List.length_cons, List.length_append, List.length_nil]; omega
    · rcases h with ⟨rfl, rfl⟩ | ⟨rfl, rfl⟩ <;> decide
theorem Cl.flat : ∀ {xs : List (List UInt8)}, (∀ x ∈ xs, Cl x) → Cl xs.flatten
  | [], _ => Cl.nil
  | x :: xs, h => by
    rw [List.flatten_cons]
    exact Cl.app (h x List.mem_cons_self) (Cl.flat (fun y hy => h y (List.mem_cons_of_mem _ hy)))
theorem cl {A B E : Int} {x : List UInt8} (t : T A B E x) : Cl x := by
  refine T.ind (P := fun A B E l => Cl l) ?_ ?_ ?_ ?_ t
  · intro A B E c _ _ _ hc
    obtain ⟨_, _, h40, h41, h123, h125⟩ := one_ascii c hc
    exact Cl.one h40 h123 h41 h125
  · intro A B E x _ _ _ _ ih
    exact Cl.app (x := [97]) (Cl.one (by decide) (by decide) (by decide) (by decide)) ih
  · intro A B E c x _ _ _ hc _ ih
    obtain ⟨_, _, h40, h41, h123, h125⟩ := one_ascii c (by simp [oneC, hc])
    have h1 : Cl (c :: x) := Cl.app (x := [c]) (Cl.one h40 h123 h41 h125) ih
    have h2 : Cl (123 :: ((c :: x) ++ [125])) := Cl.wrap (.inr ⟨rfl, rfl⟩) h1
    exact Cl.app (x := [97]) (y := 123 :: ((c :: x) ++ [125])) (Cl.one (by decide) (by decide) (by decide) (by decide)) h2
  · intro A B E xs _ _ _ _ _ ih
    exact Cl.wrap (.inl ⟨rfl, rfl⟩) (Cl.flat ih)
/-- A closing brace with nothing open: not closed. -/
theorem not_closed {s : ByteArray} (hs : s.size ≤ 1000000000) {y z : List UInt8} (hy : Cl y) (hb : bl s = y ++ 125 :: z) : Ev (fun k => laws_sgClosed.f k s) false := by
  have hb2 : (bl s).drop y.length = 125 :: z := by rw [hb, List.drop_left]
  have h := hy s 0 [] (125 :: z) false hs (by simp) (by rw [List.drop_zero]; exact hb) (by
    rw [Nat.zero_add]
    refine Ev.step (f := fun k => laws_sgClosed.l0 (k + 1) s [] (y.length : Int)) (fun k => rfl) (Ev.step (f := fun k => laws_sgClosed.j2 k s [] (y.length : Int) true) (fun k => ?_) (Ev.step (f := fun _ => some false) (fun k => ?_) (Ev.now _)))
    · rw [c_mid hs hb2 (by decide) (by decide) _ k]; rfl
    · simp only [laws_sgClosed.j2]; rw [if_pos trivial, if_pos (by rfl)])
  exact h
/-- The look comes to an end. -/
theorem closed (s : ByteArray) (hs : s.size ≤ 1000000000) (d : Nat) : ∀ (i : Nat) (st : List Int), s.size - i = d → i ≤ s.size → st.length ≤ i → ∃ b, Ev (fun k => laws_sgClosed.l0 k s st (i : Int)) b := by
  induction d using Nat.strongRecOn with
  | _ d ih =>
  intro i st hd hi hst
  cases hc : (bl s).drop i with
  | nil =>
    have hnl : ¬ i < s.size := by
      have := congrArg List.length hc
      rw [List.length_drop, bl_len] at this
      simp at this; omega
    refine ⟨((st.length : Int) == 0), Ev.step (f := fun _ => some ((st.length : Int) == 0)) (fun k => ?_) (Ev.now _)⟩
    simp only [laws_sgClosed.l0]; rw [if_neg (by omega)]
  | cons c z =>
    have hlt := drop_lt hc
    have next : ∀ st' : List Int, st'.length ≤ i + 1 → ∃ b, Ev (fun k => laws_sgClosed.l0 k s st' ((i + 1 : Nat) : Int)) b := fun st' h1 => ih (s.size - (i + 1)) (by omega) (i + 1) st' rfl (by omega) h1
    by_cases ho : c = 40 ∨ c = 123
    · obtain ⟨b, hb⟩ := next (st ++ [(c.toNat : Int)]) (by simp; omega)
      exact ⟨b, Ev.step (f := fun k => laws_sgClosed.l0 (k + 1) s st (i : Int)) (fun k => rfl) (Ev.step (fun k => c_open hs hc ho st hst k) hb)⟩
    have up : ∀ b, Ev (fun k => laws_sgClosed.j2 k s st (i : Int) (c == 41 || c == 125)) b → Ev (fun k => laws_sgClosed.l0 k s st (i : Int)) b := fun b h =>
      Ev.step (f := fun k => laws_sgClosed.l0 (k + 1) s st (i : Int)) (fun k => rfl) (Ev.step (fun k => c_mid hs hc (fun q => ho (.inl q)) (fun q => ho (.inr q)) st k) h)
    cases hcl : (c == 41 || c == 125) with
    | false =>
      rw [hcl] at up
      obtain ⟨b, hb⟩ := next st (by omega)
      refine ⟨b, up b (Ev.step (fun k => ?_) hb)⟩
      simp only [laws_sgClosed.j2]; rw [if_neg (by decide), wj i (by omega)]
    | true =>
      rw [hcl] at up
      by_cases h0 : st.length = 0
      · refine ⟨false, up false (Ev.step (f := fun _ => some false) (fun k => ?_) (Ev.now _))⟩
        simp only [laws_sgClosed.j2]; rw [if_pos trivial, if_pos (by omega)]
      · have e3 : ∀ k, laws_sgClosed.j2 (k + 1) s st (i : Int) true = if ((rd st ((st.length - 1 : Nat) : Int) == 40) != (bt s i == 41)) = true then some false else laws_sgClosed.l0 k s (st.take (st.length - 1)) ((i + 1 : Nat) : Int) := by
          intro k
          simp only [laws_sgClosed.j2]
          rw [if_pos trivial, if_neg (by omega), wk st.length (by omega) h0, if_pos (by omega), if_pos (by omega), if_pos (by omega), if_pos (by omega), wj i (by omega), Int.toNat_natCast]
          by_cases hm : ((rd st ((st.length - 1 : Nat) : Int) == 40) != (bt s i == 41)) = true
          · rw [if_pos hm, if_pos hm]
          · rw [if_neg hm, if_neg hm, if_pos (by omega)]
        by_cases hm : ((rd st ((st.length - 1 : Nat) : Int) == 40) != (bt s i == 41)) = true
        · exact ⟨false, up false (Ev.step e3 (ev_ite_pos hm (fun _ => rfl) (Ev.now _)))⟩
        · obtain ⟨b, hb2⟩ := next (st.take (st.length - 1)) (by rw [List.length_take]; omega)
          exact ⟨b, up b (Ev.step e3 (ev_ite_neg hm (fun _ => rfl) hb2))⟩
theorem same {α : Type} {g : Nat → Option α} {a b : α} (h1 : Ev g a) (h2 : Ev g b) : a = b := by
  obtain ⟨K1, g1⟩ := h1
  obtain ⟨K2, g2⟩ := h2
  exact Option.some.inj ((g1 (max K1 K2) (Nat.le_max_left _ _)).symm.trans (g2 (max K1 K2) (Nat.le_max_right _ _)))

/-! The three questions. -/
/-- A complete type is no other complete type's beginning. -/
theorem prefix_free {x y z : List UInt8} (hx : T 32 32 32 x) (hy : T 32 32 32 y) (hl : x.length ≤ 100000) (h : x = y ++ z) : x = y := by
  let s : ByteArray := ⟨x.toArray⟩
  have hb : bl s = x := by simp [s, bl]
  have hs : s.size ≤ 1000000000 := by rw [← bl_len, hb]; omega
  obtain ⟨n, _, h1, _⟩ := Go.Proofs.Ytfipimoemhbnlaa.MFnSgEntrys.complete s.size s (Nat.le_refl _) hs 32 32 32 (by omega) (by omega) (by omega) (by omega) (by omega) (by omega)
  have e1 := h1 x [] hx (by rw [hb]; simp)
  have e2 := h1 y z hy (by rw [hb, h])
  have h3 := congrArg (List.take y.length) h
  rw [List.take_left, show y.length = x.length by omega, List.take_length] at h3
  exact h3
theorem single (s : ByteArray) (hs : s.size ≤ 255) : ∃ b, Ev (fun k => spec_Single.f k s) b ∧ (b = true ↔ T 32 32 32 (bl s)) := by
  obtain ⟨L, b, hL, hr⟩ := types s (by omega)
  rcases hr with ⟨rfl, _, hg, hf⟩ | ⟨rfl, _, hr⟩
  · refine ⟨((L.length : Int) == 1), Ev.bind hL (ev_ite_pos rfl (fun _ => rfl) (Ev.now _)), ?_⟩
    rw [beq_iff_eq]
    constructor
    · intro h
      match L, h with
      | [z], _ => rw [hf]; simpa using hg
    · intro t
      have := types_eq (L.map bl) [bl s] hg (by intro y hy; rw [List.mem_singleton.mp hy]; exact t) (by rw [← hf, bl_len]; omega) (by rw [← hf]; simp)
      have := congrArg List.length this
      simp at this; omega
  · refine ⟨false, Ev.bind hL (ev_ite_neg (show ¬ (false = true) by decide) (fun _ => rfl) (Ev.now _)), ?_⟩
    rcases hr with hr | hr
    · omega
    · constructor
      · intro h; cases h
      · intro t
        exact absurd (by simp) (hr [bl s] (by intro y hy; rw [List.mem_singleton.mp hy]; exact t))
theorem valid_a (v : ByteArray) (hv : v.size ≤ 250) (t : T 32 32 32 (bl v)) : ∃ b, Ev (fun k => spec_Valid.f k ((⟨#[97]⟩ : ByteArray) ++ v)) b ∧ (b = true ↔ T 31 32 31 (bl v)) := by
  have hsz : ((⟨#[97]⟩ : ByteArray) ++ v).size = 1 + v.size := ByteArray.size_append
  have hbl : bl ((⟨#[97]⟩ : ByteArray) ++ v) = 97 :: bl v := by rw [bl_append]; rfl
  obtain ⟨L, b, hL, hr⟩ := types ((⟨#[97]⟩ : ByteArray) ++ v) (by omega)
  refine ⟨b, Ev.bind hL (Ev.now _), ?_⟩
  rw [hbl] at hr
  rcases hr with ⟨rfl, _, hg, hf⟩ | ⟨rfl, _, hr⟩
  · refine ⟨fun _ => ?_, fun _ => rfl⟩
    cases hm : L.map bl with
    | nil => rw [hm] at hf; cases hf
    | cons x xs =>
      rw [hm] at hf hg
      rw [List.flatten_cons] at hf
      have tx := hg x List.mem_cons_self
      obtain ⟨_, _, _, hh⟩ := tx.cases
      rcases hh with ⟨c, hc, rfl⟩ | ⟨y, hy, rfl⟩ | ⟨c, y, hc, hy, rfl⟩ | ⟨ys, hn, hx, rfl⟩
      · have h2 := (List.cons.inj hf).1
        obtain ⟨_, h97, _⟩ := one_ascii c hc
        exact absurd h2.symm h97
      · have h2 := (List.cons.inj hf).2
        have := prefix_free t (hy.more (by omega) (by omega) (by omega)) (by rw [bl_len]; omega) h2
        rw [this]; exact hy.entries (by omega)
      · have h2 := (List.cons.inj hf).2
        obtain ⟨c', r', e, h123, _⟩ := t.head
        rw [e] at h2
        exact absurd (List.cons.inj h2).1 h123
      · have h2 := (List.cons.inj hf).1
        cases h2
  · refine ⟨fun h => by (cases h), fun t2 => ?_⟩
    rcases hr with hr | hr
    · omega
    · exact absurd (by simp) (hr [97 :: bl v] (by
        intro y hy; rw [List.mem_singleton.mp hy]
        exact T.arr (by omega) (by omega) (by omega) (t2.more (by omega) (by omega) (by omega))))
/-- What the package says. -/
theorem entry (c : UInt8) (v s : ByteArray) (hv : v.size ≤ 250) (hb : bl s = 97 :: 123 :: c :: (bl v ++ [125])) (hp : NP (bl s)) (hcl : Ev (fun k => laws_sgClosed.f k v) true) :
    ∃ x b, Ev (fun k => impl_SgParse.f k s) (x, b) ∧ (b = true ↔ basicC c = true ∧ T 31 32 31 (bl v)) := by
  have hsz : s.size = v.size + 4 := by rw [← bl_len, hb]; simp [bl_len]
  obtain ⟨e, he, hend⟩ := ends s.size s rfl (by omega)
  have good : basicC c = true → T 31 32 31 (bl v) → T 32 32 32 (bl s) := fun hc t => by
    rw [hb]; exact T.dict (by omega) (by omega) (by omega) hc t
  cases e with
  | some w =>
    refine ⟨_, _, sg_err (by omega) he, fun h => by (cases h), fun ⟨hc, t⟩ => ?_⟩
    have h2 := sg_good (s := s) (xs := [bl s]) (by omega) (by intro y hy; rw [List.mem_singleton.mp hy]; exact good hc t) (by simp)
    have := same h2 (sg_err (by omega) he)
    exact Bool.noConfusion (show true = false from congrArg Prod.snd this)
  | none =>
    refine ⟨_, _, sg_ok (by omega) he, fun _ => ?_, fun _ => rfl⟩
    obtain ⟨xs, hxs, hf⟩ := hend rfl hp
    cases xs with
    | nil => rw [hb] at hf; cases hf
    | cons x xs =>
      rw [hb, List.flatten_cons] at hf
      have tx := hxs x List.mem_cons_self
      obtain ⟨_, _, _, hh⟩ := tx.cases
      rcases hh with ⟨c', hc, rfl⟩ | ⟨y, hy, rfl⟩ | ⟨c', y, hc, hy, rfl⟩ | ⟨ys, hn, hx, rfl⟩
      · have h2 := (List.cons.inj hf).1
        obtain ⟨_, h97, _⟩ := one_ascii c' hc
        exact absurd h2.symm h97
      · have h2 := (List.cons.inj hf).2
        obtain ⟨c'', r', e, h123, _⟩ := hy.head
        rw [e] at h2
        exact absurd (List.cons.inj h2).1.symm h123
      · have h2 := (List.cons.inj (List.cons.inj hf).2).2
        have h3 := (List.cons.inj h2).1
        have h4 : bl v ++ [125] = y ++ ([125] ++ xs.flatten) := (List.cons.inj h2).2.trans (List.append_assoc _ _ _)
        subst h3
        refine ⟨hc, ?_⟩
        rcases List.eq_nil_or_concat xs.flatten with hn | ⟨q, l, hq⟩
        · rw [hn] at h4
          have : bl v = y := List.append_cancel_right h4
          rw [this]; exact hy
        · exfalso
          rw [hq] at h4
          have h5 : bl v ++ [125] = (y ++ 125 :: q) ++ [l] := by rw [h4]; simp
          have h6 := List.append_inj_left' h5 rfl
          have := same hcl (not_closed (by omega) (cl hy) h6)
          cases this
      · have h2 := (List.cons.inj hf).1
        cases h2

theorem yy : Ev (fun k => impl_SgParse.f k (⟨#[97, 123, 121, 121, 125]⟩ : ByteArray)) (⟨#[97, 123, 121, 121, 125]⟩, true) :=
  sg_good (xs := [[97, 123, 121, 121, 125]]) (by decide) (by intro y hy; rw [List.mem_singleton.mp hy]; exact T.dict (c := 121) (x := [121]) (by omega) (by omega) (by omega) (by decide) (T.one (by omega) (by omega) (by omega) (by decide))) rfl

theorem FnSgEntry : laws_FnSgEntry.Pure := by
  intro key v hwf hv
  have hk := bounds_u8 hwf
  obtain ⟨n, rfl⟩ := Int.eq_ofNat_of_zero_le hk.1
  apply Ev.rounds
  have hn : n < 256 := by omega
  have hc : (((UInt8.ofNat n).toNat : Nat) : Int) = (n : Int) := by
    rw [UInt8.toNat_ofNat']; omega
  generalize hcc : UInt8.ofNat n = c at hc
  have hsn : strOfNums [(n : Int)] = ⟨#[c]⟩ := by rw [← hcc]; rfl
  have fin : ∀ x s, Ev (fun k => laws_FnSgEntry.j0 k x v s true) true := by
    intro x s
    refine Ev.step (f := fun _ => some true) (fun k => ?_) (Ev.now _)
    simp only [laws_FnSgEntry.j0]; exact if_pos trivial
  unfold laws_FnSgEntry.f
  by_cases h1 : (v.size : Int) > 2147483647
  · exact ev_ite_pos h1 (fun _ => rfl) (Ev.now _)
  have z2 : (⟨#[c]⟩ : ByteArray).size = 1 := rfl
  have z3 : ((⟨#[97, 123]⟩ : ByteArray) ++ (⟨#[c]⟩ : ByteArray)).size = 3 := ByteArray.size_append
  have z4 : (((⟨#[97, 123]⟩ : ByteArray) ++ (⟨#[c]⟩ : ByteArray)) ++ v).size = 3 + v.size := by rw [ByteArray.size_append, z3]
  have hb : bl ((((⟨#[97, 123]⟩ : ByteArray) ++ (⟨#[c]⟩ : ByteArray)) ++ v) ++ (⟨#[125]⟩ : ByteArray)) = 97 :: 123 :: c :: (bl v ++ [125]) := by
    rw [bl_append, bl_append, bl_append]; rfl
  have z5 : ((((⟨#[97, 123]⟩ : ByteArray) ++ (⟨#[c]⟩ : ByteArray)) ++ v) ++ (⟨#[125]⟩ : ByteArray)).size = v.size + 4 := by rw [← bl_len, hb]; simp [bl_len]
  refine ev_ite_neg h1 (fun _ => rfl) ?_
  simp only [Option.bind_some, hsn]
  refine ev_ite_pos (by rw [z2]; omega) (fun _ => rfl) (ev_ite_pos (by rw [z3]; omega) (fun _ => rfl) (ev_ite_pos (by rw [z4]; omega) (fun _ => rfl) ?_))
  generalize hs : ((((⟨#[97, 123]⟩ : ByteArray) ++ (⟨#[c]⟩ : ByteArray)) ++ v) ++ (⟨#[125]⟩ : ByteArray)) = s at hb z5
  by_cases h2 : (v.size : Int) > 250
  · exact ev_ite_pos h2 (fun _ => rfl) (fin _ _)
  refine ev_ite_neg h2 (fun _ => rfl) ?_
  obtain ⟨lf, hlf, hnp⟩ := left_f s (by omega)
  refine Ev.bind hlf ?_
  cases lf with
  | true => exact ev_ite_pos rfl (fun _ => rfl) (fin _ _)
  | false =>
  refine ev_ite_neg (show ¬ (false = true) by decide) (fun _ => rfl) ?_
  obtain ⟨cb, hcb⟩ := closed v (by omega) v.size 0 [] (by omega) (by omega) (by simp)
  refine Ev.bind (g := fun k => laws_sgClosed.f k v) hcb ?_
  cases cb with
  | false => exact ev_ite_neg (show ¬ (false = true) by decide) (fun _ => rfl) (fin _ _)
  | true =>
  refine ev_ite_pos rfl (fun _ => rfl) ?_
  have main : Ev (fun k => laws_FnSgEntry.j0 k (n : Int) v s false) true := by
    obtain ⟨x, b, hx, hxb⟩ := entry c v s (by omega) hb (hnp rfl) hcb
    obtain ⟨sb, hsb, hsb2⟩ := single v (by omega)
    refine Ev.step (f := fun k => ((spec_Basic.f (n : Int)).bind fun t147 => (if t147 = true then ((spec_Single.f k v).bind fun t148 => (if t148 = true then (if 1 + v.size ≤ 9223372036854775807 then ((spec_Valid.f k ((⟨#[97]⟩ : ByteArray) ++ v)).bind fun t149 => ((impl_SgParse.f k s).bind fun bt150 => ((impl_SgParse.f k (⟨#[97, 123, 121, 121, 125]⟩ : ByteArray)).bind fun bt152 => (if (bt150.2 == t149) = true then (some bt152.2) else (some false))))) else (none)) else ((impl_SgParse.f k s).bind fun bt154 => ((impl_SgParse.f k (⟨#[97, 123, 121, 121, 125]⟩ : ByteArray)).bind fun bt156 => (if (bt154.2 == false) = true then (some bt156.2) else (some false)))))) else ((impl_SgParse.f k s).bind fun bt158 => ((impl_SgParse.f k (⟨#[97, 123, 121, 121, 125]⟩ : ByteArray)).bind fun bt160 => (if (bt158.2 == false) = true then (some bt160.2) else (some false))))))) (fun k => ?_) ?_
    · simp only [laws_FnSgEntry.j0]; rw [if_neg (by decide)]
    · rw [← hc, Go.Proofs.Ytfipimoemhbnlaa.MFnSgEntrys.basic_f]
      refine Ev.bind (Ev.now _) ?_
      cases hbc : basicC c with
      | false =>
        have hbf : b = false := by
          rw [Bool.eq_false_iff]; intro h; rw [(hxb.mp h).1] at hbc; cases hbc
        subst hbf
        exact ev_ite_neg (show ¬ (false = true) by decide) (fun _ => rfl) (Ev.bind hx (Ev.bind yy (ev_ite_pos rfl (fun _ => rfl) (Ev.now _))))
      | true =>
        refine ev_ite_pos rfl (fun _ => rfl) (Ev.bind hsb ?_)
        cases sb with
        | false =>
          have hbf : b = false := by
            rw [Bool.eq_false_iff]; intro h
            have := hsb2.mpr ((hxb.mp h).2.more (by omega) (by omega) (by omega))
            cases this
          subst hbf
          exact ev_ite_neg (show ¬ (false = true) by decide) (fun _ => rfl) (Ev.bind hx (Ev.bind yy (ev_ite_pos rfl (fun _ => rfl) (Ev.now _))))
        | true =>
          obtain ⟨vb, hvb, hvb2⟩ := valid_a v (by omega) (hsb2.mp rfl)
          refine ev_ite_pos rfl (fun _ => rfl) (ev_ite_pos (by omega) (fun _ => rfl) (Ev.bind hvb (Ev.bind hx (Ev.bind yy (ev_ite_pos ?_ (fun _ => rfl) (Ev.now _))))))
          rw [beq_iff_eq, Bool.eq_iff_iff]
          show b = true ↔ vb = true
          rw [hxb, hvb2]
          exact ⟨fun h => h.2, fun h => ⟨hbc, h⟩⟩
  by_cases q1 : (n : Int) = 40
  · exact ev_ite_pos q1 (fun _ => rfl) (fin _ _)
  refine ev_ite_neg q1 (fun _ => rfl) ?_
  by_cases q2 : (n : Int) = 41
  · exact ev_ite_pos q2 (fun _ => rfl) (fin _ _)
  refine ev_ite_neg q2 (fun _ => rfl) ?_
  by_cases q3 : (n : Int) = 123
  · exact ev_ite_pos q3 (fun _ => rfl) (fin _ _)
  refine ev_ite_neg q3 (fun _ => rfl) ?_
  by_cases q4 : (n : Int) = 125
  · rw [show ((n : Int) == 125) = true from beq_iff_eq.mpr q4]; exact fin _ _
  · rw [show ((n : Int) == 125) = false from beq_eq_false_iff_ne.mpr q4]; exact main

end Go.Proofs.Ytfipimoemhbnlaa.Pure
