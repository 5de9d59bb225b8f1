/- The tokens of two texts with a blank between them are the first's, without its end, and the second's. -/
import Derived.Test.YthcafnmagidpiaaDoorMFnVtTokensJoinx19
import Derived.Test.YthcafnmagidpiaaDoorMFnVtTokensJoinz
namespace Go.Proofs.YthcafnmagidpiaaDoor.Pure
open Go Go.RowKit Go.Proofs.YthcafnmagidpiaaDoor.MFnVtTokensJoin Go.Proofs.YthcafnmagidpiaaDoorW.PrintWords Go.Proofs.YthcafnmagidpiaaDoorW.PrintLast Go.Proofs.YthcafnmagidpiaaDoor.Hlp Go.Proofs.YthcafnmagidpiaaDoor.MFnVtTokensJoinr Go.Proofs.YthcafnmagidpiaaDoor.MFnVtTokensJoinz Go.Proofs.YthcafnmagidpiaaDoor.MFnVtTokensJoina
set_option linter.unusedVariables false

theorem rd_k (xs : List S48) (i : Nat) (h : i < xs.length) : rd (kinds xs) (i : Int) = xs[i].f0 := by
  unfold rd kinds
  rw [Int.toNat_natCast, List.getD_eq_getElem?_getD, List.getElem?_map, List.getElem?_eq_getElem h]
  rfl
theorem rd_t (xs : List S48) (i : Nat) (h : i < xs.length) : rdOf ByteArray.empty (texts xs) (i : Int) = xs[i].f1 := by
  unfold rdOf texts
  rw [Int.toNat_natCast, List.getD_eq_getElem?_getD, List.getElem?_map, List.getElem?_eq_getElem h]
  rfl
theorem join_l {A B : List S48} (hA : 1 ≤ A.length) (hl : A.length + B.length ≤ 20000) : ∀ (d i : Nat), i + d = A.length - 1 + B.length →
    Ev (fun k => laws_FnVtTokensJoin.l0 k (kinds A) (texts A) (kinds B) (texts B) (kinds (A.dropLast ++ B)) (texts (A.dropLast ++ B)) ((A.length - 1 + B.length : Nat) : Int) (i : Int)) true := by
  have lk : ∀ xs : List S48, (kinds xs).length = xs.length := fun xs => List.length_map ..
  have lt : ∀ xs : List S48, (texts xs).length = xs.length := fun xs => List.length_map ..
  have hC : (A.dropLast ++ B).length = A.length - 1 + B.length := by rw [List.length_append, List.length_dropLast]
  intro d
  induction d with
  | zero =>
    intro i hd
    refine Ev.step (f := fun _ => some true) (fun k => ?_) (Ev.now _)
    simp only [laws_FnVtTokensJoin.l0]
    rw [if_neg (by omega)]
  | succ d ih =>
    intro i hd
    have hi : i < (A.dropLast ++ B).length := by omega
    have hw : wrap64 ((i : Int) + 1) = ((i + 1 : Nat) : Int) := by rw [w64 (by omega) (by omega)]; rfl
    have hw2 : wrap64 (((kinds A).length : Int) - 1) = (A.length : Int) - 1 := by rw [lk, w64 (by omega) (by omega)]
    refine Ev.step (fun k => ?_) (ih (i + 1) (by omega))
    simp only [laws_FnVtTokensJoin.l0]
    rw [if_pos (by omega), hw2, hw]
    by_cases h1 : i < A.length - 1
    · have hiA : i < A.length := by omega
      have e : (A.dropLast ++ B)[i] = A[i] := by
        rw [List.getElem_append_left (by rw [List.length_dropLast]; omega), List.getElem_dropLast]
      rw [if_pos (by omega), if_pos (by omega), if_pos (by rw [lk]; omega), if_pos (by rw [lt]; omega), if_pos (by rw [lk]; omega), rd_k _ i hi, rd_k _ i hiA, e, if_pos rfl]
      by_cases h2 : A[i].f0 = 1
      · rw [if_pos h2]
      · rw [if_neg h2, if_pos (by rw [lt]; omega), rd_t _ i hi, rd_t _ i hiA, e, if_pos rfl]
    · obtain ⟨j, rfl⟩ : ∃ j, i = A.length - 1 + j := ⟨i - (A.length - 1), by omega⟩
      have hj : j < B.length := by omega
      have e : (A.dropLast ++ B)[A.length - 1 + j] = B[j] := by
        rw [List.getElem_append_right (by rw [List.length_dropLast]; omega)]
        congr 1
        rw [List.length_dropLast]
        omega
      have hw3 : wrap64 ((wrap64 (((A.length - 1 + j : Nat) : Int) - ((kinds A).length : Int))) + 1) = (j : Int) := by
        rw [lk, w64 (x := ((A.length - 1 + j : Nat) : Int) - (A.length : Int)) (by omega) (by omega), w64 (by omega) (by omega)]
        omega
      rw [if_neg (by omega), hw3, if_pos (by omega), if_pos (by rw [lk]; omega), if_pos (by rw [lt]; omega), if_pos (by omega), if_pos (by rw [lk]; omega), rd_k _ _ hi, rd_k _ j hj, e, if_pos rfl]
      by_cases h2 : B[j].f0 = 1
      · rw [if_pos h2]
      · rw [if_neg h2, if_pos (by rw [lt]; omega), rd_t _ _ hi, rd_t _ j hj, e, if_pos rfl]
theorem type_last (a : ByteArray) (l : List S26) (h : l.length ≤ a.size + 1) (ha : a.size ≤ 9000) : ∃ b, laws_vtTypeLast.f a l = some b := by
  unfold laws_vtTypeLast.f
  by_cases h1 : (l.length : Int) > 1
  · have w1 : wrap64 ((l.length : Int) - 2) = (l.length : Int) - 2 := w64 (by omega) (by omega)
    have w2 : wrap64 ((a.size : Int) - 1) = (a.size : Int) - 1 := w64 (by omega) (by omega)
    rw [if_pos h1, w1, w2, if_pos (by omega), if_pos (by omega)]
    by_cases h2 : (rd_T26 l ((l.length : Int) - 2)).f0 = 13
    · rw [if_pos h2, if_pos (by omega), if_pos (by omega)]
      exact ⟨_, rfl⟩
    · rw [if_neg h2]
      exact ⟨_, rfl⟩
  · rw [if_neg h1]
    exact ⟨_, rfl⟩
theorem FnVtTokensJoin : laws_FnVtTokensJoin.Pure := by
  intro a0 a1 _ _
  refine Ev.rounds (r := true) ?_
  have jt : Ev (fun k => laws_FnVtTokensJoin.j0 k a0 a1 true) true := Ev.step (f := fun _ => some true) (fun k => by simp only [laws_FnVtTokensJoin.j0]; rw [if_pos trivial]) (Ev.now _)
  by_cases h1 : (a0.size : Int) > 2147483647
  · exact ev_ite_pos h1 (fun _ => rfl) jt
  refine ev_ite_neg h1 (fun _ => rfl) ?_
  by_cases h2 : (a1.size : Int) > 2147483647
  · rw [decide_eq_true h2]
    exact jt
  rw [decide_eq_false h2]
  have ws : wrap64 ((a0.size : Int) + (a1.size : Int)) = (a0.size : Int) + (a1.size : Int) := w64 (by omega) (by omega)
  by_cases h3 : (a0.size : Int) + (a1.size : Int) > 4096
  · exact Ev.step (f := fun _ => some true) (fun k => by simp only [laws_FnVtTokensJoin.j0]; rw [if_neg (by simp), ws, if_pos h3]) (Ev.now _)
  obtain ⟨⟨ys0, b0⟩, ho0, hs0⟩ := tokens_f a0 (by omega)
  obtain ⟨⟨ys1, b1⟩, ho1, hs1⟩ := tokens_f a1 (by omega)
  have j1t : Ev (fun k => laws_FnVtTokensJoin.j1 k a0 a1 ys0 ys1 true) true := Ev.step (f := fun _ => some true) (fun k => by simp only [laws_FnVtTokensJoin.j1]; rw [if_pos trivial]) (Ev.now _)
  have go : ∀ r, Ev (fun k => if b0 = true then (if b1 = true then (if 0 ≤ (wrap64 ((ys0.length : Int) - 1)) then (if (wrap64 ((ys0.length : Int) - 1)) < (ys0.length : Int) then (if ((rd_T26 ys0 (wrap64 ((ys0.length : Int) - 1))).f0) = 1 then (laws_FnVtTokensJoin.j1 k a0 a1 ys0 ys1 true) else ((laws_vtTypeLast.f a0 ys0).bind fun t201 => (if t201 = true then (laws_FnVtTokensJoin.j1 k a0 a1 ys0 ys1 true) else ((laws_vtTypeLast.f a1 ys1).bind fun t202 => (laws_FnVtTokensJoin.j1 k a0 a1 ys0 ys1 t202))))) else (none)) else (none)) else (laws_FnVtTokensJoin.j1 k a0 a1 ys0 ys1 true)) else (laws_FnVtTokensJoin.j1 k a0 a1 ys0 ys1 true)) r → Ev (fun k => laws_FnVtTokensJoin.j0 k a0 a1 false) r := by
    intro r hr
    obtain ⟨K0, g0⟩ := ho0
    obtain ⟨K1, g1⟩ := ho1
    obtain ⟨K2, g2⟩ := hr
    refine ⟨K0 + K1 + K2 + 1, fun k hk => ?_⟩
    obtain ⟨m, rfl⟩ : ∃ m, k = m + 1 := ⟨k - 1, by omega⟩
    show laws_FnVtTokensJoin.j0 (m + 1) a0 a1 false = some r
    simp only [laws_FnVtTokensJoin.j0]
    rw [if_neg (by simp), ws, if_neg h3, show spec_Tokens.f m a0 = some (ys0, b0) from g0 m (by omega), Option.bind_some, show spec_Tokens.f m a1 = some (ys1, b1) from g1 m (by omega), Option.bind_some]
    exact g2 m (by omega)
  refine go true ?_
  cases b0 with
  | false => exact ev_ite_neg (by simp) (fun _ => rfl) j1t
  | true =>
    refine ev_ite_pos rfl (fun _ => rfl) ?_
    cases b1 with
    | false => exact ev_ite_neg (by simp) (fun _ => rfl) j1t
    | true =>
      obtain ⟨ys, A, e1, e2, e3, e4, e5⟩ := hs0 rfl
      obtain ⟨ys', B, d1, d2, d3, d4, d5⟩ := hs1 rfl
      rw [List.nil_append] at e1 d1
      subst e1 d1
      simp only at e3 e4 e5 d3 d4 d5
      rw [bl_len] at e5 d5
      obtain ⟨s1, s2, s3⟩ := Same.all e3
      obtain ⟨t1, t2, t3⟩ := Same.all d3
      have wl : wrap64 ((ys0.length : Int) - 1) = (ys0.length : Int) - 1 := w64 (by omega) (by omega)
      refine ev_ite_pos rfl (fun _ => rfl) (ev_ite_pos (by rw [wl]; omega) (fun _ => rfl) (ev_ite_pos (by rw [wl]; omega) (fun _ => rfl) ?_))
      by_cases h4 : (rd_T26 ys0 (wrap64 ((ys0.length : Int) - 1))).f0 = 1
      · exact ev_ite_pos h4 (fun _ => rfl) j1t
      refine ev_ite_neg h4 (fun _ => rfl) ?_
      obtain ⟨q0, hq0⟩ := type_last a0 ys0 (by omega) (by omega)
      obtain ⟨q1, hq1⟩ := type_last a1 ys1 (by omega) (by omega)
      have j1f : Ev (fun k => laws_FnVtTokensJoin.j1 k a0 a1 ys0 ys1 false) true := by
        have hlast : ∀ x, A.getLast? = some x → x.f0 ≠ 1 := by
          intro x hx
          have hlt : ys0.length - 1 < ys0.length := by omega
          have hlt2 : ys0.length - 1 < A.length := by omega
          have g1 : rd_T26 ys0 ((ys0.length : Int) - 1) = ys0[ys0.length - 1] := by
            unfold rd_T26
            rw [show ((ys0.length : Int) - 1).toNat = ys0.length - 1 by omega, List.getD_eq_getElem?_getD, List.getElem?_eq_getElem hlt]
            rfl
          have g2 : x = A[ys0.length - 1] := by
            rw [List.getLast?_eq_getElem?, ← s1, List.getElem?_eq_getElem hlt2] at hx
            exact (Option.some.inj hx).symm
          rw [wl, g1, (s3 _ hlt hlt2).1] at h4
          rw [g2]
          exact h4
        have hv0 := vt_f a0 (by omega) e2 s2 (by omega)
        have hv1 := vt_f a1 (by omega) d2 t2 (by omega)
        have hJ : Lex (bl ((a0 ++ (⟨#[32]⟩ : ByteArray)) ++ a1)) (A.dropLast ++ B) := by
          have eb : bl ((a0 ++ (⟨#[32]⟩ : ByteArray)) ++ a1) = bl a0 ++ 32 :: bl a1 := by
            rw [bl_append, bl_append, List.append_assoc]
            rfl
          rw [eb]
          obtain ⟨K, hK⟩ := e2
          exact lex_app d2 K (bl a0) A (hK K K (Nat.le_refl _) (Nat.le_refl _)) hlast
        have hsz : ((a0 ++ (⟨#[32]⟩ : ByteArray)) ++ a1).size = a0.size + 1 + a1.size := by
          rw [← bl_len, bl_append, bl_append, List.length_append, List.length_append, bl_len, bl_len]
          rfl
        have hsz2 : (a0 ++ (⟨#[32]⟩ : ByteArray)).size = a0.size + 1 := by
          rw [← bl_len, bl_append, List.length_append, bl_len]
          rfl
        have hC : (A.dropLast ++ B).length = A.length - 1 + B.length := by rw [List.length_append, List.length_dropLast]
        have hv2 := vt_f ((a0 ++ (⟨#[32]⟩ : ByteArray)) ++ a1) (by omega) hJ (fun x hx => by
          rcases List.mem_append.1 hx with hx | hx
          · exact s2 x ((List.dropLast_sublist A).mem hx)
          · exact t2 x hx) (by omega)
        have lk : ∀ xs : List S48, (kinds xs).length = xs.length := fun xs => List.length_map ..
        have lt : ∀ xs : List S48, (texts xs).length = xs.length := fun xs => List.length_map ..
        have hj2 : Ev (fun k => laws_FnVtTokensJoin.j2 k (kinds A) (texts A) (kinds B) (texts B) (kinds (A.dropLast ++ B)) (texts (A.dropLast ++ B)) false) true := by
          refine Ev.step (f := fun k => laws_FnVtTokensJoin.l0 k (kinds A) (texts A) (kinds B) (texts B) (kinds (A.dropLast ++ B)) (texts (A.dropLast ++ B)) ((A.length - 1 + B.length : Nat) : Int) 0) (fun k => ?_) (join_l (by omega) (by omega) (A.length - 1 + B.length) 0 (by omega))
          simp only [laws_FnVtTokensJoin.j2]
          rw [if_neg (by simp), lk, hC]
        obtain ⟨K0, g0⟩ := hv0
        obtain ⟨K1, g1⟩ := hv1
        obtain ⟨K2, g2⟩ := hv2
        obtain ⟨K3, g3⟩ := hj2
        refine ⟨K0 + K1 + K2 + K3 + 1, fun k hk => ?_⟩
        obtain ⟨m, rfl⟩ : ∃ m, k = m + 1 := ⟨k - 1, by omega⟩
        show laws_FnVtTokensJoin.j1 (m + 1) a0 a1 ys0 ys1 false = some true
        have w5 : wrap64 ((wrap64 ((A.length : Int) - 1)) + (B.length : Int)) = ((A.length - 1 + B.length : Nat) : Int) := by
          rw [w64 (x := (A.length : Int) - 1) (by omega) (by omega), w64 (by omega) (by omega)]
          omega
        have e9 : (((texts (A.dropLast ++ B)).length : Int) != ((kinds (A.dropLast ++ B)).length : Int)) = false := by rw [lk, lt]; simp
        simp only [laws_FnVtTokensJoin.j1]
        rw [if_neg (by simp), show impl_VtTokens.f m a0 = some (kinds A, texts A) from g0 m (by omega), Option.bind_some, show impl_VtTokens.f m a1 = some (kinds B, texts B) from g1 m (by omega), Option.bind_some, if_pos (by omega), if_pos (by omega),
          show impl_VtTokens.f m ((a0 ++ (⟨#[32]⟩ : ByteArray)) ++ a1) = some (kinds (A.dropLast ++ B), texts (A.dropLast ++ B)) from g2 m (by omega), Option.bind_some]
        simp only
        rw [if_pos (by rw [lk]; omega), if_pos (by rw [lt]; omega), if_pos (by rw [lk]; omega), if_pos (by rw [lt]; omega), e9, lk, lk, lk, w5, if_pos (by rw [hC])]
        exact g3 m (by omega)
      have jb : ∀ b, Ev (fun k => laws_FnVtTokensJoin.j1 k a0 a1 ys0 ys1 b) true := fun b => by cases b; exact j1f; exact j1t
      rw [hq0, hq1]
      simp only [Option.bind_some]
      cases q0 with
      | true => exact ev_ite_pos (c := (true = true)) (h := fun k => laws_FnVtTokensJoin.j1 k a0 a1 ys0 ys1 q1) rfl (fun _ => rfl) j1t
      | false => exact ev_ite_neg (c := (false = true)) (f := fun k => laws_FnVtTokensJoin.j1 k a0 a1 ys0 ys1 true) (by simp) (fun _ => rfl) (jb q1)
end Go.Proofs.YthcafnmagidpiaaDoor.Pure
