-- Written by a program of this session (myprint.py, out of the translation). Not trusted: Lean checks it.
import Derived.Test.YthcafnmagidpiaaDoorMFnVtTokensJoinLm
import Derived.Test.YthcafnmagidpiaaDoorMFnVtTokensJoinx0
import Derived.Test.YthcafnmagidpiaaDoorMFnVtTokensJoinx3
import Derived.Test.YthcafnmagidpiaaDoorMFnVtTokensJoinx15
namespace Go.Proofs.YthcafnmagidpiaaDoor.MFnVtTokensJoin
open Go.RowKit Go.Proofs.YthcafnmagidpiaaDoorW.PrintWords Go.Proofs.YthcafnmagidpiaaDoorW.PrintLast Go.Proofs.YthcafnmagidpiaaDoorW.PrintMore
attribute [local go_sem] max2_int min2_int max_two min_two max_three min_three max_four min_four   -- for this text's walks alone
set_option linter.unusedVariables false
set_option linter.unusedSimpArgs false

/-! ### dbus_varLex: function 23 -/
-- GIVENTEXT
/-! ### the lexer's run -/
theorem quo_le {q : UInt8} : ∀ (l : List UInt8) (n : Nat), quo q l = some n → 1 ≤ n ∧ n ≤ l.length := by
  intro l
  induction l using quo.induct q with
  | case1 => intro n h; cases h
  | case2 r => intro n h; rw [quo_eq] at h; cases h; simp
  | case3 h1 =>
    intro n h
    rw [quo_esc (fun e => h1 e.symm)] at h
    cases h
  | case4 d r2 h1 ih =>
    intro n h
    rw [quo_esc (fun e => h1 e.symm)] at h
    obtain ⟨m, h3, rfl⟩ := Option.map_eq_some_iff.1 h
    have := ih m h3
    simp only [List.length_cons]
    omega
  | case5 c r h1 h2 ih =>
    intro n h
    rw [quo_ne h1 h2] at h
    obtain ⟨m, h3, rfl⟩ := Option.map_eq_some_iff.1 h
    have := ih m h3
    simp only [List.length_cons]
    omega
theorem typL_le : ∀ (l : List UInt8) (n : Nat), typL l = some n → n ≤ l.length
  | [], n, h => by cases h; exact Nat.le_refl _
  | c :: r, n, h => by
    unfold typL at h
    split at h
    · cases h
    · split at h
      · cases h; exact Nat.zero_le _
      · obtain ⟨m, h3, rfl⟩ := Option.map_eq_some_iff.1 h
        have := typL_le r m h3
        simp only [List.length_cons]
        omega
theorem hd_len {v : ByteArray} {l : List UInt8} (h : hd v l = true) : 1 ≤ l.length := by
  cases l with
  | nil => cases h
  | cons c t => simp
theorem expT_le (l : List UInt8) : expT l ≤ l.length := by
  unfold expT
  split
  · rename_i h
    have h1 := hd_len h
    have h2 := opt_le PM (l.drop 1)
    have h3 := span_le D10 (l.drop (1 + opt PM (l.drop 1)))
    rw [List.length_drop] at h2 h3
    omega
  · exact Nat.zero_le _
theorem dotT_le (v : ByteArray) (l : List UInt8) : dotT v l ≤ l.length := by
  unfold dotT
  split
  · rename_i h
    have h1 := hd_len h
    have h2 := span_le v (l.drop 1)
    have h3 := expT_le (l.drop (1 + span v (l.drop 1)))
    rw [List.length_drop] at h2 h3
    omega
  · exact expT_le l
theorem numT_le (v : ByteArray) (l : List UInt8) : numT v l ≤ l.length := by
  unfold numT
  have h2 := span_le v l
  have h3 := dotT_le v (l.drop (span v l))
  rw [List.length_drop] at h3
  omega
theorem numL_le (l : List UInt8) : numL l ≤ l.length := by
  unfold numL
  have h0 := opt_le PM l
  split
  · rename_i h
    have h1 := hd_len h
    rw [List.length_drop] at h1
    split
    · rename_i h'
      have h2 := hd_len h'
      have h3 := numT_le D16 (l.drop (opt PM l + 2))
      rw [List.length_drop] at h2 h3
      omega
    · have h3 := numT_le D8 (l.drop (opt PM l + 1))
      rw [List.length_drop] at h3
      omega
  · have h3 := numT_le D10 (l.drop (opt PM l))
    rw [List.length_drop] at h3
    omega
theorem numL_pos {c : UInt8} {r : List UInt8} (h : hd D10 (c :: r) = true ∨ hd PM (c :: r) = true) : 1 ≤ numL (c :: r) := by
  rcases h with h | h
  · by_cases hp : hd PM (c :: r) = true
    · have ho : opt PM (c :: r) = 1 := by unfold opt; rw [if_pos hp]
      unfold numL
      rw [ho]
      split
      · split <;> omega
      · omega
    · have ho : opt PM (c :: r) = 0 := by unfold opt; rw [if_neg hp]
      unfold numL
      rw [ho]
      split
      · split <;> omega
      · have : 1 ≤ numT D10 ((c :: r).drop 0) := by
          unfold numT
          have h2 := span_t (l := (c :: r).drop 0) h
          omega
        omega
  · have ho : opt PM (c :: r) = 1 := by unfold opt; rw [if_pos h]
    unfold numL
    rw [ho]
    split
    · split <;> omega
    · omega
theorem kd13 : (0 : Int) ≤ 13 ∧ (13 : Int) ≤ 14 := by decide
theorem kd2 : (0 : Int) ≤ 2 ∧ (2 : Int) ≤ 14 := by decide
theorem kd1 : (0 : Int) ≤ 1 ∧ (1 : Int) ≤ 14 := by decide
def TkOk (l : List UInt8) (x : Option (Int × Nat) × ByteArray) : Prop := ∀ tn, x.1 = some tn → 1 ≤ tn.2 ∧ tn.2 ≤ l.length ∧ 0 ≤ tn.1 ∧ tn.1 ≤ 14
theorem sgl_ok (c : UInt8) : 0 ≤ sgl c ∧ sgl c ≤ 14 := by
  unfold sgl
  repeat' split
  all_goals omega
theorem typ_ok {K : Nat} {c : UInt8} {t : List UInt8} {x : Option (Int × Nat) × ByteArray} (hb : blankb c = false) (h : typF K (c :: t) = some x) : TkOk (c :: t) x := by
  unfold typF at h
  obtain ⟨n, h1, h⟩ := Option.bind_eq_some_iff.1 h
  have h2 := typL_pos hb h1
  have h3 := typL_le _ _ h1
  split at h
  · obtain ⟨y, _, h⟩ := Option.bind_eq_some_iff.1 h
    split at h
    · cases h; intro tn e; cases e
    · cases h; intro tn e; cases e; exact ⟨h2, h3, kd13.1, kd13.2⟩
  · obtain ⟨y, _, h⟩ := Option.bind_eq_some_iff.1 h
    split at h
    · cases h; intro tn e; cases e; exact ⟨h2, h3, kd13.1, kd13.2⟩
    · cases h; intro tn e; cases e
theorem num_ok {l : List UInt8} {x : Option (Int × Nat) × ByteArray} (hp : 1 ≤ numL l) (h : numF l = some x) : TkOk l x := by
  unfold numF numE at h
  split at h
  · cases h; intro tn e; cases e; exact ⟨hp, numL_le l, kd2.1, kd2.2⟩
  · split at h
    · cases h
    · split at h
      · cases h; intro tn e; cases e
      · cases h; intro tn e; cases e; exact ⟨hp, numL_le l, kd2.1, kd2.2⟩
theorem str_ok {t : Int} {m : Nat} {er : ByteArray} {q : UInt8} {l l2 : List UInt8} (ht : 0 ≤ t ∧ t ≤ 14) (hm : m + l.length ≤ l2.length) : TkOk l2 (strF t m er (quo q l)) := by
  intro tn e
  unfold strF at e
  cases hq : quo q l with
  | none => rw [hq] at e; cases e
  | some n =>
    rw [hq] at e
    cases e
    have := quo_le l n hq
    exact ⟨by show 1 ≤ m + n; omega, by show m + n ≤ _; omega, ht⟩
theorem tok_ok {K : Nat} {c : UInt8} {t : List UInt8} {x : Option (Int × Nat) × ByteArray} (hb : blankb c = false) (h : tokF K (c :: t) = some x) : TkOk (c :: t) x := by
  replace h : tokC K c t = some x := h
  unfold tokC at h
  split at h
  · cases h; intro tn e; cases e; exact ⟨Nat.le_refl _, by simp, (sgl_ok c).1, (sgl_ok c).2⟩
  · split at h
    · cases h; exact str_ok ⟨by decide, by decide⟩ (by simp; omega)
    · split at h
      · exact typ_ok hb h
      · split at h
        · cases h
        · split at h
          · rename_i h5
            exact num_ok (numL_pos h5) h
          · split at h
            · rename_i h6
              cases h
              refine str_ok ⟨by decide, by decide⟩ ?_
              cases t with
              | nil => rcases h6.2 with h7 | h7 <;> exact absurd h7 (by decide)
              | cons q t2 => simp; omega
            · split at h
              · rename_i h7
                cases h
                intro tn e
                cases e
                have := congrArg List.length h7
                rw [List.length_take] at this
                simp only [List.length_cons, List.length_nil] at this
                exact ⟨by decide, by show 4 ≤ _; simp only [List.length_cons]; omega, by decide, by decide⟩
              · split at h
                · rename_i h7
                  cases h
                  intro tn e
                  cases e
                  have := congrArg List.length h7
                  rw [List.length_take] at this
                  simp only [List.length_cons, List.length_nil] at this
                  exact ⟨by decide, by show 5 ≤ _; simp only [List.length_cons]; omega, by decide, by decide⟩
                · exact typ_ok hb h
/-- There are no more tokens than bytes, and one; their kinds are small. -/
theorem lex_ok {K : Nat} : ∀ (n : Nat) (l : List UInt8) (R : List S48), lexF K n l = some R → R.length ≤ l.length + 1 ∧ ∀ x ∈ R, 0 ≤ x.f0 ∧ x.f0 ≤ 14
  | 0, _, _, h => by cases h
  | n + 1, [], R, h => by
    cases h
    exact ⟨by simp, fun x hx => by simp at hx; subst hx; exact ⟨by decide, by decide⟩⟩
  | n + 1, c :: t, R, h => by
    by_cases hb : blankb c = true
    · unfold lexF at h
      rw [if_pos hb] at h
      have := lex_ok n t R h
      exact ⟨by simp only [List.length_cons]; omega, this.2⟩
    · have hb' : blankb c = false := by simpa using hb
      unfold lexF at h
      rw [if_neg hb] at h
      obtain ⟨x, h1, h2⟩ := Option.bind_eq_some_iff.1 h
      have hk := tok_ok hb' h1
      cases hx : x.1 with
      | none =>
        rw [hx] at h2
        cases h2
        exact ⟨by simp, fun x hx => by simp at hx; subst hx; exact kd1⟩
      | some tn =>
        rw [hx] at h2
        obtain ⟨y, h3, h4⟩ := Option.map_eq_some_iff.1 h2
        subst h4
        have h5 := lex_ok n _ y h3
        have h6 := hk tn hx
        have h7 := h5.1
        rw [List.length_drop] at h7
        refine ⟨by simp only [List.length_cons] at h7 h6 ⊢; omega, fun z hz => ?_⟩
        rcases List.mem_cons.1 hz with rfl | hz
        · exact h6.2.2
        · exact h5.2 z hz
theorem str_tok {w0 : World} {g : Nat} {a : ByteArray} {p pos m : Nat} {ts : List S48} {t : Int} {er : ByteArray} {o : Option Nat} {e : Ending} {w' : World} (hm : pos + 1 = p + m) (h : StrPost w0 g a p pos ts t er o e w') : TokPost w0 g a p ts (strF t m er o) e w' := by
  unfold StrPost at h
  unfold TokPost strF
  cases o with
  | none => exact ⟨h.1, ⟨p, h.2⟩⟩
  | some n =>
    obtain ⟨h1, k, h2⟩ := h
    refine ⟨h1, k, ?_⟩
    rw [show p + (m + n) = pos + 1 + n by omega]
    exact h2
theorem tok_next {K : Nat} {w0 : World} {g : Nat} {a : ByteArray} {p : Nat} {R ts rest : List S48} {o : Option (Int × Nat) × ByteArray} {c : UInt8} {t : List UInt8} {e : Ending} {w' : World} (hp : p ≤ a.size) (hR : R = ts ++ rest) (hl : a.data.toList.drop p = c :: t) (hleft : Left K (c :: t) rest o) (hb : blankb c = false) (ho : tokF K (c :: t) = some o) (h : TokPost w0 g a p ts o e w') :
    ∃ s m, e = .returned s ∧ m < 3 * (a.size - p) + 1 ∧ StQ K w0 g a R s w' m := by
  have hk := tok_ok hb ho
  have hlen : (c :: t).length = a.size - p := by rw [← hl, List.length_drop]; rfl
  unfold TokPost at h
  unfold Left at hleft
  cases hx : o.1 with
  | none =>
    rw [hx] at h hleft
    obtain ⟨h1, h2⟩ := h
    refine ⟨_, 0, h1, by omega, .inl ⟨rfl, rfl, ?_⟩⟩
    simp only at hleft
    rw [hR, hleft]
    exact h2
  | some tn =>
    rw [hx] at h hleft
    obtain ⟨h1, k, h2⟩ := h
    obtain ⟨n, y, h3, h4⟩ := hleft
    have h5 := hk tn hx
    rw [hlen] at h5
    refine ⟨_, _, h1, ?_, .inr (.inl ⟨p + tn.2, n, _, y, k, by omega, ?_, ?_, rfl, rfl, h2⟩)⟩
    · omega
    · rw [hR, h4, ext_take, hl, List.append_assoc]
      rfl
    · rw [← List.drop_drop, hl]
      exact h3
theorem neq_nn (W : World) : (binOp .neq 61 .nilFunc .nilFunc).run Tryd.prog W = .ok (.bool false) W := by
  have h : ∀ d, (Op.equalIn (d + 1) 61 .nilFunc .nilFunc).run Tryd.prog W = .ok true W := fun d => by
    simp [Op.equalIn, run_underlying Tryd.underlying61]
  simp [binOp, Op.equal, show Op.maxDepth = 9999 + 1 from rfl, h]
theorem neq_fn (f : Fn) (W : World) : (binOp .neq 61 (.func f #[] #[]) .nilFunc).run Tryd.prog W = .ok (.bool true) W := by
  have h : ∀ d, (Op.equalIn (d + 1) 61 (.func f #[] #[]) .nilFunc).run Tryd.prog W = .ok false W := fun d => by
    simp [Op.equalIn, run_underlying Tryd.underlying61]
  simp [binOp, Op.equal, show Op.maxDepth = 9999 + 1 from rfl, h]
set_option maxHeartbeats 4000000 in
set_option maxRecDepth 100000 in
theorem run_calls (K : Nat) (w0 w : World) (g : Nat) (a : ByteArray) (R : List S48) (n : Nat) (hx : Lx w0 w g a 0 0 0 []) (hl : lexF K n a.data.toList = some R) (hq0 : a.size ≤ 90000) (hT : Lib.Utf8Tabs 0 1 w0) :
    Calls Tryd.prog 30 #[.pointer (some ⟨g, 0, none⟩)] w fun e w' => e = .returned (.tuple #[]) ∧ ∃ st p k, Lx w0 w' g a st p k R := by
  have hq : a.size ≤ 100000 := by omega
  have hsz : a.data.toList.length = a.size := rfl
  have hR : R.length ≤ 100000 := by have := (lex_ok n _ R hl).1; omega
  have H32 := Aside0.mk (fun W p k (ts rest : List S48) n (h : Lx w0 W g a p p k ts) (hp : p ≤ a.size) (hl : lexF K n (a.data.toList.drop p) = some rest) (hr : R = ts ++ rest) => norm_calls K w0 W g a p k R ts n rest h hp hl hr hq hR hT)
  have HTS : Aside0 (∀ ts rest : List S48, R = ts ++ rest → ts.length ≤ 100000) := ⟨fun ts rest h => by have := congrArg List.length h; rw [List.length_append] at this; omega⟩
  have H37 := Aside0.mk (fun W p k (ts : List S48) c t (h : Lx w0 W g a p p k ts) (hn : ts.length ≤ 100000) (hc : c = 34 ∨ c = 39) (hl : a.data.toList.drop p = c :: t) => str_calls w0 W g a p p k ts c t h (Nat.le_refl _) hc hl hq hn hT)
  have H44 := Aside0.mk (fun W p k (ts : List S48) c t (h : Lx w0 W g a p (p + 1) k ts) (hn : ts.length ≤ 100000) (hc : c = 34 ∨ c = 39) (hl : a.data.toList.drop (p + 1) = c :: t) => bst_calls w0 W g a p (p + 1) k ts c t h (Nat.le_succ _) hc hl hq hn hT)
  have H38 := Aside0.mk (fun W p k (ts : List S48) c t o (h : Lx w0 W g a p p k ts) (hn : ts.length ≤ 100000) (hl : a.data.toList.drop p = c :: t) (hb : blankb c = false) (ho : typF K (a.data.toList.drop p) = some o) => ty_calls K w0 W g a p k ts o c t h hl hb ho hq hn hT)
  have H42 := Aside0.mk (fun W p k (ts : List S48) o (h : Lx w0 W g a p p k ts) (hp : p ≤ a.size) (hn : ts.length ≤ 100000) (ho : numF (a.data.toList.drop p) = some o) => num_calls w0 W g a p k ts o h hp ho hq hn hT)
  have HX := Aside0.mk hx
  have HL := Aside0.mk hl
  clear hx hl hT
  have q1 := neq_nn
  have q2 := neq_fn
  go_enter Tryd.func30, Tryd.ntmps30
  go_wp2
  go_loopg [2] (3 * a.size + 2) (fun kq v2 w' => Aside0 (StQ K w0 g a R v2 w' kq))
  case atStart => exact ⟨.inr (.inl ⟨0, n, [], R, 0, Nat.zero_le _, rfl, HL.out, rfl, rfl, HX.out⟩)⟩
  case round =>
    clear HX HL
    rcases hrel.out with ⟨rfl, rfl, st, p, k, hx⟩ | ⟨p, n, ts, rest, k, hp, hr, hl, rfl, rfl, hx⟩ | ⟨p, ts, rest, k, o, c, t, hp, hr, hl, hleft, hb, ho, rfl, hcase⟩
    · have HX := Aside0.mk hx
      clear hx hrel
      go_wp2
      first | go_end0 | ((try simp only [Exit.inBlock, Exit.then]); refine bodyPost_ret (results_none rfl _ _ _) rfl ?_)
      exact ⟨rfl, _, _, _, HX.out⟩
    · have HC := Aside0.mk (H32.out _ p k ts rest n hx hp hl hr)
      clear hx hl hr hrel
      go_wp2_with (go_at_call 32; refine HC.out.mono ?_; rintro e w5 ⟨s2, m2, rfl, hm2, hst2⟩; have HS := Aside0.mk hst2; clear hst2)
      go_roundg m2
      case measure => omega
      case rel => exact HS
    · have htn := HTS.out ts rest hr
      have HNX := Aside0.mk (fun e w' => tok_next (K := K) (w0 := w0) (g := g) (a := a) (e := e) (w' := w') hp hr hl hleft hb ho)
      have HO := Aside0.mk ho
      rcases hcase with ⟨rfl, hc, hx⟩ | ⟨rfl, ht, hx⟩ | ⟨rfl, ht, hx⟩ | ⟨rfl, rfl, ⟨q, t2, rfl, hqq⟩, hx⟩
      · have HC := Aside0.mk (H37.out _ p k ts c t hx htn hc.symm hl)
        have HOE := Aside0.mk (tok_quo hc ho)
        clear hx hl hr hrel hleft ho hc hb
        go_wp2_with (go_at_call 37; refine HC.out.mono ?_; intro e w5 hpost; (have hp5 := str_tok (m := 1) rfl hpost); (have hp6 := HNX.out e w5 (by rw [HOE.out]; exact hp5)); obtain ⟨s2, m2, rfl, hm2, hst2⟩ := hp6; have HS := Aside0.mk hst2; clear hst2 hp5 hpost)
        go_roundg m2
        case measure => omega
        case rel => exact HS
      · have HC := Aside0.mk (H38.out _ p k ts c t o hx htn hl hb (by rw [hl]; exact ht))
        clear hx hl hr hrel hleft ho hb ht
        go_wp2_with (go_at_call 38; refine HC.out.mono ?_; intro e w5 hpost; (have hp6 := HNX.out e w5 hpost); obtain ⟨s2, m2, rfl, hm2, hst2⟩ := hp6; have HS := Aside0.mk hst2; clear hst2 hpost)
        go_roundg m2
        case measure => omega
        case rel => exact HS
      · have HC := Aside0.mk (H42.out _ p k ts o hx hp htn (by rw [hl]; exact ht))
        clear hx hl hr hrel hleft ho hb ht
        go_wp2_with (go_at_call 42; refine HC.out.mono ?_; intro e w5 hpost; (have hp6 := HNX.out e w5 hpost); obtain ⟨s2, m2, rfl, hm2, hst2⟩ := hp6; have HS := Aside0.mk hst2; clear hst2 hpost)
        go_roundg m2
        case measure => omega
        case rel => exact HS
      · have HC := Aside0.mk (H44.out _ p k ts q t2 hx htn hqq (drop_tail hl))
        have HOE := Aside0.mk (Option.some.inj (ho.symm.trans (tok_b hqq)))
        clear hx hl hr hrel hleft ho hb hqq
        go_wp2_with (go_at_call 44; refine HC.out.mono ?_; intro e w5 hpost; (have hp5 := str_tok (m := 2) (by omega) hpost); (have hp6 := HNX.out e w5 (by rw [HOE.out]; exact hp5)); obtain ⟨s2, m2, rfl, hm2, hst2⟩ := hp6; have HS := Aside0.mk hst2; clear hst2 hp5 hpost)
        go_roundg m2
        case measure => omega
        case rel => exact HS
def dbus_varLex.f (k : Nat) (a0 : ByteArray) : Option (List S48) := if a0.size ≤ 90000 then lexF k k a0.data.toList else none
theorem typF_mono (l : List UInt8) (k : Nat) : LeO (typF k l) (typF (k + 1) l) := by
  unfold typF
  refine LeO.bind (LeO.refl _) (fun n => LeO.ite (LeO.bind (dbus_ParseSignature.mono _ _) (fun _ => LeO.refl _)) (LeO.refl _))
theorem tokF_mono : ∀ (l : List UInt8) (k : Nat), LeO (tokF k l) (tokF (k + 1) l)
  | [], k => LeO.refl _
  | c :: r, k => by
    show LeO (tokC k c r) (tokC (k + 1) c r)
    unfold tokC
    exact LeO.ite (LeO.refl _) (LeO.ite (LeO.refl _) (LeO.ite (typF_mono _ _) (LeO.ite (LeO.refl _) (LeO.ite (LeO.refl _) (LeO.ite (LeO.refl _) (LeO.ite (LeO.refl _) (LeO.ite (LeO.refl _) (typF_mono _ _))))))))
theorem lexF_mono : ∀ (n : Nat) (l : List UInt8) (k : Nat), LeO (lexF k n l) (lexF (k + 1) (n + 1) l)
  | 0, l, k => fun r h => by cases h
  | n + 1, [], k => LeO.refl _
  | n + 1, c :: r, k => by
    unfold lexF
    refine LeO.ite (lexF_mono n r k) (LeO.bind (tokF_mono _ _) (fun x => ?_))
    cases x.1 with
    | none => exact LeO.refl _
    | some tn =>
      intro y hy
      obtain ⟨z, h1, h2⟩ := Option.map_eq_some_iff.1 hy
      simp only
      rw [lexF_mono n _ k z h1]
      exact congrArg some h2
theorem dbus_varLex.mono : ∀ a0 k, LeO (dbus_varLex.f k a0) (dbus_varLex.f (k + 1) a0) := fun a0 k => LeO.ite (lexF_mono k _ k) (LeO.refl _)
set_option maxHeartbeats 4000000 in
set_option maxRecDepth 100000 in
theorem dbus_varLex.calls (k : Nat) (a0 : ByteArray) (r : List S48) (w : World) (hT : Lib.Utf8Tabs 0 1 w) (h : dbus_varLex.f k a0 = some r) :
    Calls Tryd.prog 23 #[.string a0] w fun e w' => ∃ v0_ : Value, e = .returned (v0_) ∧ Kd.R k48 48 w' w.heap.size (fun _ => True) v0_ r ∧ Below w.heap.size w w' := by
  unfold dbus_varLex.f at h
  split at h
  · rename_i hq
    have HR := Aside0.mk (fun W g (hx : Lx w W g a0 0 0 0 []) => run_calls k w W g a0 r k hx h hq hT)
    clear h hT
    go_enter Tryd.func23, Tryd.ntmps23
    go_wp2_with (go_at_call 30; refine (HR.out _ w.heap.size ⟨Nat.le_refl _, by repeat (first | exact Below.refl _ _ | apply below_alloc | apply pw_below_drewN), _, (by simpa using heap_alloc_new w _), Kd.R_nil _ _ _ _ _⟩).mono ?_; rintro e w5 ⟨rfl, st, p, k2, hx5⟩; (obtain ⟨h1, h2, A, h3, h4⟩ := hx5); have HB := Aside0.mk h2; have HH := Aside0.mk h4; (obtain ⟨Av, cv, ev⟩ := Kd.R_slice h4); subst ev; have c4 := (blk_cell h3 4).trans rfl; clear h1 h2 h3 h4)
    go_ret
    exact ⟨_, rfl, HH.out, HB.out⟩
  · cases h

end Go.Proofs.YthcafnmagidpiaaDoor.MFnVtTokensJoin
