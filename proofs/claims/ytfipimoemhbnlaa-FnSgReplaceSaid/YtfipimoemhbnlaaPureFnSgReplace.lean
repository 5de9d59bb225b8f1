/- A signature in which one complete type, at any depth, but no dict's key, gives way to a type of one letter is a signature still. -/
import Derived.Test.YtfipimoemhbnlaaMFnSgReplacey
import Derived.Test.YtfipimoemhbnlaaMFnSgReplacep
import Derived.OpenShut
namespace Go.Proofs.Ytfipimoemhbnlaa.Pure
open Go Go.RowKit Go.Proofs.Ytfipimoemhbnlaa.MFnSgReplace Go.Proofs.YtfipimoemhbnlaaW.PrintWords Go.Proofs.YtfipimoemhbnlaaW.PrintLast Go.Proofs.YtfipimoemhbnlaaW.PrintMore Go.Proofs.Ytfipimoemhbnlaa.Hlp Go.Proofs.Ytfipimoemhbnlaa.SgT Go.Proofs.Ytfipimoemhbnlaa.MFnSgReplacei Go.Proofs.Ytfipimoemhbnlaa.MFnSgReplacet Go.Proofs.Ytfipimoemhbnlaa.MFnSgReplacep Go.Proofs.Ytfipimoemhbnlaa.MFnSgReplacey
set_option linter.unusedVariables false
set_option linter.unusedSimpArgs false

theorem wz {x : Int} (h1 : -1000000 ≤ x) (h2 : x ≤ 1000000) : wrap64 x = x := w64 (by omega) (by omega)
theorem wa (a n : Nat) (h : a + n ≤ 100000) : wrap64 ((a : Int) + (n : Int)) = ((a + n : Nat) : Int) := by rw [wz (by omega) (by omega)]; omega
theorem wm (n : Nat) (h : n ≤ 100000) (h1 : 1 ≤ n) : wrap64 ((n : Int) - 1) = ((n - 1 : Nat) : Int) := by rw [wz (by omega) (by omega)]; omega

/-- One type of a text stands from p to q; a type of one letter in its place leaves as many types. -/
def Sub (A B E : Int) (n : Nat) (l : List UInt8) (p q : Nat) : Prop := ∃ u y v, l = u ++ (y ++ v) ∧ u.length = p ∧ p + y.length = q ∧ T 32 32 32 y ∧ ∀ c, oneC c = true → ∃ zs : List (List UInt8), zs.length = n ∧ (∀ z ∈ zs, T A B E z) ∧ u ++ (c :: v) = zs.flatten
theorem cons_all {A B E : Int} {x : List UInt8} {xs : List (List UInt8)} (hx : T A B E x) (h : ∀ y ∈ xs, T A B E y) : ∀ y ∈ x :: xs, T A B E y := by
  intro y hy
  rcases List.mem_cons.mp hy with rfl | hy
  · exact hx
  · exact h y hy
theorem Sub.own {A B E : Int} {x : List UInt8} {xs : List (List UInt8)} (h32 : A ≤ 32 ∧ B ≤ 32 ∧ E ≤ 32) (hx : T A B E x) (h : ∀ y ∈ xs, T A B E y) : Sub A B E (xs.length + 1) (x ++ xs.flatten) 0 x.length := by
  obtain ⟨hA, hB, hE⟩ := hx.pos
  refine ⟨[], x, xs.flatten, rfl, rfl, by omega, hx.more h32.1 h32.2.1 h32.2.2, fun c hc => ⟨[c] :: xs, by simp, cons_all (T.one hA hB hE hc) h, by simp⟩⟩
theorem Sub.behind {A B E : Int} {n : Nat} {x l : List UInt8} {p q : Nat} (hx : T A B E x) (h : Sub A B E n l p q) : Sub A B E (n + 1) (x ++ l) (x.length + p) (x.length + q) := by
  obtain ⟨u, y, v, e, hu, hy, t, hc⟩ := h
  refine ⟨x ++ u, y, v, by rw [e]; simp, by simp; omega, by omega, t, fun c hcc => ?_⟩
  obtain ⟨zs, h1, h2, h3⟩ := hc c hcc
  exact ⟨x :: zs, by simp [h1], cons_all hx h2, by rw [List.flatten_cons, ← h3]; simp⟩
/-- Within the first type. -/
theorem Sub.within {A B E A' B' E' : Int} {m : Nat} {pre inner post : List UInt8} {xs : List (List UInt8)} {p q : Nat} (h : ∀ y ∈ xs, T A B E y) (hs : Sub A' B' E' m inner p q)
    (hin : ∀ zs : List (List UInt8), zs.length = m → (∀ z ∈ zs, T A' B' E' z) → T A B E (pre ++ (zs.flatten ++ post))) : Sub A B E (xs.length + 1) ((pre ++ (inner ++ post)) ++ xs.flatten) (pre.length + p) (pre.length + q) := by
  obtain ⟨u, y, v, e, hu, hy, t, hc⟩ := hs
  refine ⟨pre ++ u, y, v ++ (post ++ xs.flatten), by rw [e]; simp, by simp; omega, by omega, t, fun c hcc => ?_⟩
  obtain ⟨zs, h1, h2, h3⟩ := hc c hcc
  refine ⟨(pre ++ (zs.flatten ++ post)) :: xs, by simp, cons_all (hin zs h1 h2) h, ?_⟩
  rw [List.flatten_cons, ← h3]; simp

/-- The reference's first type. -/
theorem first {x rest : List UInt8} (tt : T 32 32 32 x) {s : ByteArray} (hb : bl s = x ++ rest) (hs : s.size ≤ 1000) : Ev (fun k => spec_First.f k s) (s.extract 0 x.length, s.extract x.length s.size, true) := by
  obtain ⟨n, hn, h1, _⟩ := Go.Proofs.Ytfipimoemhbnlaa.MFnSgReplaces.complete s.size s (Nat.le_refl _) (by omega) 32 32 32 (by omega) (by omega) (by omega) (by omega) (by omega) (by omega)
  have hc : Ev (fun k => spec_complete.f k s) (n : Int) := Ev.bind hn (Ev.now _)
  have hnx := h1 x rest tt hb
  have hl := tt.len
  have hsz : s.size = x.length + rest.length := by rw [← bl_len, hb, List.length_append]
  have hj : Ev (fun k => spec_First.j0 k s false) (s.extract 0 x.length, s.extract x.length s.size, true) := by
    refine Ev.step (f := fun k => (spec_complete.f k s).bind fun t125 => (if t125 ≤ 0 then (some ((⟨#[]⟩ : ByteArray), (⟨#[]⟩ : ByteArray), false)) else (if 0 ≤ t125 then (if t125 ≤ (s.size : Int) then (some (s.extract 0 (t125 : Int).toNat, s.extract (t125 : Int).toNat s.size, true)) else (none)) else (none)))) (fun k => ?_) ?_
    · simp only [spec_First.j0]; rw [if_neg (by decide)]
    · refine Ev.bind hc (ev_ite_neg (by omega) (fun _ => rfl) (ev_ite_pos (by omega) (fun _ => rfl) (ev_ite_pos (by omega) (fun _ => rfl) ?_)))
      rw [Int.toNat_natCast, hnx]; exact Ev.now _
  obtain ⟨c, r, e, h123, _⟩ := tt.head
  have h0 : bt s 0 = (c.toNat : Int) := bt_cons (r := r ++ rest) (by rw [hb, e]; rfl)
  have hq : (bt s 0 == 123) = false := by rw [beq_eq_false_iff_ne, h0]; exact fun q => h123 ((num_eq 123).mp q)
  unfold spec_First.f
  by_cases h : (s.size : Int) > 1
  · exact ev_ite_pos h (fun _ => rfl) (ev_ite_pos (by omega) (fun _ => rfl) (by rw [hq]; exact hj))
  · exact ev_ite_neg h (fun _ => rfl) hj

theorem spans (N : Nat) : ∀ (s : ByteArray) (at_ : Nat) (acc : List S32) (xs : List (List UInt8)) (A B E : Int), s.size ≤ N → s.size ≤ 255 → at_ + s.size ≤ 255 → acc.length + s.size ≤ 255 → A ≤ 32 ∧ B ≤ 32 ∧ E ≤ 32 → (∀ x ∈ xs, T A B E x) → bl s = xs.flatten →
    ∃ sp : List S32, Ev (fun k => laws_sgSpans.l0 k s (at_ : Int) acc) (acc ++ sp) ∧ sp.length ≤ s.size ∧ (xs ≠ [] → sp ≠ []) ∧ ∀ e ∈ sp, ∃ p q : Nat, e = ⟨((at_ + p : Nat) : Int), ((at_ + q : Nat) : Int)⟩ ∧ Sub A B E xs.length (bl s) p q := by
  induction N with
  | zero =>
    intro s at_ acc xs A B E hN hs hat hacc h32 hx hb
    have hxs : xs = [] := by
      cases xs with
      | nil => rfl
      | cons x xs =>
        have := (hx x List.mem_cons_self).len
        have h2 := congrArg List.length hb
        simp only [List.flatten_cons, List.length_append, bl_len] at h2; omega
    subst hxs
    refine ⟨[], Ev.step (f := fun _ => some acc) (fun k => ?_) (by rw [List.append_nil]; exact Ev.now _), by simp, fun h => absurd rfl h, fun e he => by cases he⟩
    simp only [laws_sgSpans.l0]; rw [if_pos ((emp_iff s).mpr (by omega))]
  | succ N ih =>
    intro s at_ acc xs A B E hN hs hat hacc h32 hx hb
    cases xs with
    | nil =>
      have h0 : s.size = 0 := by rw [← bl_len, hb]; rfl
      refine ⟨[], Ev.step (f := fun _ => some acc) (fun k => ?_) (by rw [List.append_nil]; exact Ev.now _), by simp, fun h => absurd rfl h, fun e he => by cases he⟩
      simp only [laws_sgSpans.l0]; rw [if_pos ((emp_iff s).mpr h0)]
    | cons x xs =>
      have tx := hx x List.mem_cons_self
      have hxs : ∀ y ∈ xs, T A B E y := fun y hy => hx y (List.mem_cons_of_mem _ hy)
      obtain ⟨hA, hB, hE⟩ := tx.pos
      have hl := tx.len
      rw [List.flatten_cons] at hb
      have hsz : s.size = x.length + xs.flatten.length := by rw [← bl_len, hb, List.length_append]
      have hF := first (tx.more h32.1 h32.2.1 h32.2.2) hb (by omega)
      generalize ho : s.extract 0 x.length = one at hF
      generalize hr : s.extract x.length s.size = rem at hF
      have hob : bl one = x := by rw [← ho, bl_extract, hb, List.drop_zero, Nat.sub_zero, List.take_left]
      have hrb : bl rem = xs.flatten := by rw [← hr, bl_drop, hb, List.drop_left]
      have hos : one.size = x.length := by rw [← bl_len, hob]
      have hrs : rem.size = xs.flatten.length := by rw [← bl_len, hrb]
      have h0 : ¬ s.toList = ([] : List UInt8) := fun q => by have := (emp_iff s).mp q; omega
      -- what stands behind the first type
      have rest : ∀ acc2 : List S32, acc2.length + rem.size ≤ 255 → ∃ sp : List S32, Ev (fun k => laws_sgSpans.l0 k rem (wrap64 ((at_ : Int) + (one.size : Int))) acc2) (acc2 ++ sp) ∧ sp.length ≤ rem.size ∧ ∀ e ∈ sp, ∃ p q : Nat, e = ⟨((at_ + p : Nat) : Int), ((at_ + q : Nat) : Int)⟩ ∧ Sub A B E (xs.length + 1) (bl s) p q := by
        intro acc2 h2
        obtain ⟨sp, h3, h4, _, h6⟩ := ih rem (at_ + one.size) acc2 xs A B E (by omega) (by omega) (by omega) h2 h32 hxs hrb
        refine ⟨sp, by rw [wa at_ one.size (by omega)]; exact h3, h4, fun e he => ?_⟩
        obtain ⟨p, q, e1, e2⟩ := h6 e he
        refine ⟨x.length + p, x.length + q, by rw [e1, hos]; congr 1 <;> omega, ?_⟩
        rw [hb, ← hrb]; exact e2.behind tx
      have own : Sub A B E (xs.length + 1) (bl s) 0 x.length := by rw [hb]; exact Sub.own h32 tx hxs
      have st : ∀ k, laws_sgSpans.l0 (k + 1) s (at_ : Int) acc = (spec_First.f k s).bind fun bt126 => (if bt126.2.2 = true then (if acc.length < 8796093022208 then ((some (acc ++ [(⟨(at_ : Int), wrap64 ((at_ : Int) + (bt126.1.size : Int))⟩ : S32)] : List (S32))).bind fun y129 => (if (bt126.1.size : Int) > 3 then (if 0 ≤ 2 then (if 2 ≤ (bt126.1.size : Int) then (laws_sgSpans.j1 k (at_ : Int) y129 bt126.1 bt126.2.1 ((bt126.1.extract 0 2).toList == ([97, 123] : List UInt8))) else (none)) else (none)) else (laws_sgSpans.j1 k (at_ : Int) y129 bt126.1 bt126.2.1 false))) else (none)) else (some acc)) := by
        intro k; simp only [laws_sgSpans.l0]; rw [if_neg h0]
      let me : S32 := ⟨(at_ : Int), ((at_ + x.length : Nat) : Int)⟩
      -- it is enough to say what comes of the first type's inside
      have fin : ∀ (b : Bool), (x.length > 3 → ((one.extract 0 2).toList == ([97, 123] : List UInt8)) = b) → (¬ x.length > 3 → b = false) →
          (∃ sp : List S32, Ev (fun k => laws_sgSpans.j1 k (at_ : Int) (acc ++ [me]) one rem b) ((acc ++ [me]) ++ sp) ∧ sp.length + 1 ≤ s.size ∧ ∀ e ∈ sp, ∃ p q : Nat, e = ⟨((at_ + p : Nat) : Int), ((at_ + q : Nat) : Int)⟩ ∧ Sub A B E (xs.length + 1) (bl s) p q) →
          ∃ sp : List S32, Ev (fun k => laws_sgSpans.l0 k s (at_ : Int) acc) (acc ++ sp) ∧ sp.length ≤ s.size ∧ ((x :: xs) ≠ [] → sp ≠ []) ∧ ∀ e ∈ sp, ∃ p q : Nat, e = ⟨((at_ + p : Nat) : Int), ((at_ + q : Nat) : Int)⟩ ∧ Sub A B E (x :: xs).length (bl s) p q := by
        intro b hb1 hb2 hsp
        obtain ⟨sp, h3, h4, h5⟩ := hsp
        refine ⟨me :: sp, Ev.step st (Ev.bind hF (ev_ite_pos rfl (fun _ => rfl) (ev_ite_pos (by omega) (fun _ => rfl) ?_))), by simp; omega, fun _ => by simp, ?_⟩
        · have e1 : acc ++ me :: sp = (acc ++ [me]) ++ sp := by simp
          rw [e1]
          simp only [Option.bind_some]
          rw [wa at_ one.size (by omega)]
          rw [← hos] at hb1 hb2
          have e2 : (⟨(at_ : Int), ((at_ + one.size : Nat) : Int)⟩ : S32) = me := by rw [hos]
          rw [e2]
          by_cases h : (one.size : Int) > 3
          · refine ev_ite_pos h (fun _ => rfl) (ev_ite_pos (by omega) (fun _ => rfl) (ev_ite_pos (by omega) (fun _ => rfl) ?_))
            rw [hb1 (by omega)]; exact h3
          · refine ev_ite_neg h (fun _ => rfl) ?_
            rw [hb2 (by omega)] at h3; exact h3
        · intro e he
          rcases List.mem_cons.mp he with q | q
          · exact ⟨0, x.length, by rw [q]; rfl, own⟩
          · exact h5 e q
      -- the inside, and what stands behind
      have put : ∀ (pre inner post : List UInt8) (m : Nat) (ys : List (List UInt8)) (A' B' E' : Int) (t : ByteArray), x = pre ++ (inner ++ post) → 1 ≤ pre.length → bl t = inner → inner = ys.flatten → ys.length = m → A' ≤ 32 ∧ B' ≤ 32 ∧ E' ≤ 32 → (∀ y ∈ ys, T A' B' E' y) →
          (∀ zs : List (List UInt8), zs.length = m → (∀ z ∈ zs, T A' B' E' z) → T A B E (pre ++ (zs.flatten ++ post))) →
          ∃ sp : List S32, Ev (fun k => (laws_sgSpans.f k t ((at_ + pre.length : Nat) : Int)).bind fun t132 => (if (acc ++ [me]).length + t132.length < 8796093022208 then (laws_sgSpans.l0 k rem (wrap64 ((at_ : Int) + (one.size : Int))) ((acc ++ [me]) ++ t132)) else (none))) ((acc ++ [me]) ++ sp) ∧ sp.length + 1 ≤ s.size ∧ ∀ e ∈ sp, ∃ p q : Nat, e = ⟨((at_ + p : Nat) : Int), ((at_ + q : Nat) : Int)⟩ ∧ Sub A B E (xs.length + 1) (bl s) p q := by
        intro pre inner post m ys A' B' E' t hxe hp ht hy hm h32' hys hin
        have hts : t.size = inner.length := by rw [← bl_len, ht]
        have hxl : x.length = pre.length + inner.length + post.length := by rw [hxe]; simp; omega
        obtain ⟨sp1, g1, g2, _, g4⟩ := ih t (at_ + pre.length) [] ys A' B' E' (by omega) (by omega) (by omega) (by simp; omega) h32' hys (by rw [ht, hy])
        obtain ⟨sp2, f1, f2, f3⟩ := rest ((acc ++ [me]) ++ sp1) (by simp; omega)
        rw [List.nil_append] at g1
        refine ⟨sp1 ++ sp2, Ev.bind (g := fun k => laws_sgSpans.f k t ((at_ + pre.length : Nat) : Int)) (Ev.step (f := fun k => laws_sgSpans.l0 k t ((at_ + pre.length : Nat) : Int) []) (fun k => by simp only [laws_sgSpans.f]) g1) (ev_ite_pos (by simp; omega) (fun _ => rfl) ?_), by simp; omega, ?_⟩
        · rw [← List.append_assoc]; exact f1
        · intro e he
          rcases List.mem_append.mp he with q | q
          · obtain ⟨p, q', e1, e2⟩ := g4 e q
            refine ⟨pre.length + p, pre.length + q', by rw [e1]; congr 1 <;> omega, ?_⟩
            rw [hb, hxe]
            rw [ht, hm] at e2
            exact Sub.within hxs e2 hin
          · exact f3 e q
      have two : (one.extract 0 2).toList = x.take 2 := by rw [toList_bl, bl_extract, hob]; rfl
      obtain ⟨_, _, _, hh⟩ := tx.cases
      rcases hh with ⟨c, hc, hxe⟩ | ⟨y, hy, hxe⟩ | ⟨c, y, hc, hy, hxe⟩ | ⟨ys, hn, hys, hxe⟩
      · -- a letter
        refine fin false (fun q => by rw [hxe] at q; simp at q) (fun _ => rfl) ?_
        obtain ⟨sp, f1, f2, f3⟩ := rest (acc ++ [me]) (by simp; omega)
        obtain ⟨_, h97, h40, _⟩ := one_ascii c hc
        have h1 : bt one 0 = (c.toNat : Int) := bt_cons (r := []) (by rw [hob, hxe])
        refine ⟨sp, Ev.step (fun k => ?_) f1, by omega, f3⟩
        simp only [laws_sgSpans.j1]
        rw [if_neg (by decide), if_pos (by omega), h1, if_neg (show ¬ (c.toNat : Int) = 97 from fun q => h97 ((num_eq 97).mp q)), if_neg (show ¬ (c.toNat : Int) = 40 from fun q => h40 ((num_eq 40).mp q))]
      · -- an array
        obtain ⟨c', r', e', h123, _⟩ := hy.head
        refine fin false (fun _ => ?_) (fun _ => rfl) ?_
        · rw [two, hxe, e']
          simp only [List.take_succ_cons, List.take_zero]
          rw [beq_eq_false_iff_ne]
          intro q
          exact h123 (List.cons.inj (List.cons.inj q).2).1
        have h1 : bt one 0 = 97 := bt_cons (c := 97) (r := y) (by rw [hob, hxe])
        have hob1 : bl (one.extract 1 one.size) = y := by rw [bl_drop, hob, hxe]; rfl
        obtain ⟨sp, f1, f2, f3⟩ := put [97] y [] 1 [y] (A - 1) B E (one.extract 1 one.size) (by rw [hxe]; simp) (by simp) hob1 (by simp) rfl ⟨by omega, h32.2.1, h32.2.2⟩ (by intro z hz; rw [List.mem_singleton.mp hz]; exact hy) (by
          intro zs h1 h2
          match zs, h1 with
          | [z], _ =>
            have := T.arr hA hB hE (h2 z List.mem_cons_self)
            simpa using this)
        refine ⟨sp, Ev.step (fun k => ?_) f1, f2, f3⟩
        simp only [laws_sgSpans.j1]
        rw [if_neg (by decide), if_pos (by omega), h1, if_pos rfl, if_pos (by omega)]
        have e1 : wrap64 ((at_ : Int) + 1) = ((at_ + [(97 : UInt8)].length : Nat) : Int) := wa at_ 1 (by omega)
        rw [e1]
      · -- a dict
        have hxl : x.length = y.length + 4 := by rw [hxe]; simp
        have hyl := hy.len
        refine fin true (fun _ => ?_) (fun q => by omega) ?_
        · rw [two, hxe]; rfl
        have hob1 : bl (one.extract 3 (one.size - 1)) = y := by
          rw [bl_extract, hob, hos, hxl, hxe]
          show List.take _ (y ++ [125]) = y
          rw [show y.length + 4 - 1 - 3 = y.length by omega, List.take_left]
        obtain ⟨sp, f1, f2, f3⟩ := put [97, 123, c] y [125] 1 [y] (A - 1) B (E - 1) (one.extract 3 (one.size - 1)) (by rw [hxe]; simp) (by simp) hob1 (by simp) rfl ⟨by omega, h32.2.1, by omega⟩ (by intro z hz; rw [List.mem_singleton.mp hz]; exact hy) (by
          intro zs h1 h2
          match zs, h1 with
          | [z], _ =>
            have := T.dict hA hB hE hc (h2 z List.mem_cons_self)
            simpa using this)
        refine ⟨sp, Ev.step (fun k => ?_) f1, f2, f3⟩
        simp only [laws_sgSpans.j1]
        have e1 : wrap64 ((at_ : Int) + 3) = ((at_ + [(97 : UInt8), 123, c].length : Nat) : Int) := wa at_ 3 (by omega)
        rw [if_pos trivial, wm one.size (by omega) (by omega), if_pos (by omega), if_pos (by omega), Int.toNat_natCast, e1]
      · -- a struct
        have hxl : x.length = ys.flatten.length + 2 := by rw [hxe]; simp
        refine fin false (fun _ => ?_) (fun _ => rfl) ?_
        · rw [two, hxe, beq_eq_false_iff_ne]
          intro q
          have := congrArg List.head? q
          simp at this
        have h1 : bt one 0 = 40 := bt_cons (c := 40) (r := ys.flatten ++ [41]) (by rw [hob, hxe])
        have hob1 : bl (one.extract 1 (one.size - 1)) = ys.flatten := by
          rw [bl_extract, hob, hos, hxl, hxe]
          show List.take _ (ys.flatten ++ [41]) = _
          rw [show ys.flatten.length + 2 - 1 - 1 = ys.flatten.length by omega, List.take_left]
        obtain ⟨sp, f1, f2, f3⟩ := put [40] ys.flatten [41] ys.length ys A (B - 1) E (one.extract 1 (one.size - 1)) (by rw [hxe]; simp) (by simp) hob1 rfl rfl ⟨h32.1, by omega, h32.2.2⟩ hys (by
          intro zs h1 h2
          have hz : zs ≠ [] := by
            intro q
            rw [q] at h1
            exact hn (List.eq_nil_of_length_eq_zero h1.symm)
          have := T.str hA hB hE hz h2
          simpa using this)
        refine ⟨sp, Ev.step (fun k => ?_) f1, f2, f3⟩
        simp only [laws_sgSpans.j1]
        have e1 : wrap64 ((at_ : Int) + 1) = ((at_ + [(40 : UInt8)].length : Nat) : Int) := wa at_ 1 (by omega)
        rw [if_neg (by decide), if_pos (by omega), h1, if_neg (by decide), if_pos rfl, wm one.size (by omega) (by omega), if_pos (by omega), if_pos (by omega), Int.toNat_natCast, e1]

theorem replace_main (s : ByteArray) (hs : s.size ≤ 255) (L : List ByteArray) (hL : L ≠ []) (hg : ∀ x ∈ L.map bl, T 32 32 32 x) (hf : bl s = (L.map bl).flatten) (w : Nat) (hw : w ≤ 65535) (c : UInt8) (hc : oneC c = true) :
    Ev (fun k => laws_FnSgReplace.j0 k s (w : Int) (c.toNat : Int) false) true := by
  obtain ⟨sp, h1, h2, h3, h4⟩ := spans s.size s 0 [] (L.map bl) 32 32 32 (Nat.le_refl _) hs (by omega) (by simp; omega) ⟨by omega, by omega, by omega⟩ hg hf
  rw [List.nil_append] at h1
  have hF : Ev (fun k => laws_sgSpans.f k s 0) sp := Ev.step (f := fun k => laws_sgSpans.l0 k s ((0 : Nat) : Int) []) (fun k => by simp only [laws_sgSpans.f]; rfl) h1
  have hne : sp ≠ [] := h3 (by simpa using hL)
  have hpos : 0 < sp.length := List.length_pos_iff.mpr hne
  have e1 : wrap64 (w : Int) = (w : Int) := wz (by omega) (by omega)
  have hm : w % sp.length < sp.length := Nat.mod_lt _ hpos
  have e2 : Int.tmod (wrap64 (w : Int)) (sp.length : Int) = ((w % sp.length : Nat) : Int) := by rw [e1, Int.tmod_eq_emod_of_nonneg (by omega)]; omega
  clear e1
  obtain ⟨p, q, e3, u, y, v, hl, hu, hy, ty, hz⟩ := h4 sp[w % sp.length] (List.getElem_mem hm)
  have hrd : rd_T32 sp ((w % sp.length : Nat) : Int) = ⟨(p : Int), (q : Int)⟩ := by
    unfold rd_T32
    rw [Int.toNat_natCast, List.getD_eq_getElem?_getD, List.getElem?_eq_getElem hm, Option.getD_some, e3, Nat.zero_add, Nat.zero_add]
  have hyl := ty.len
  have hsz : s.size = p + y.length + v.length := by rw [← bl_len, hl]; simp; omega
  obtain ⟨zs, hz1, hz2, hz3⟩ := hz c hc
  have hsn : strOfNums [(c.toNat : Int)] = ⟨#[c]⟩ := by simp [strOfNums]
  have b1 : bl (s.extract 0 p) = u := by rw [bl_extract, hl, List.drop_zero, Nat.sub_zero, ← hu, List.take_left]
  have b2 : bl (s.extract q s.size) = v := by
    rw [bl_drop, hl, ← List.append_assoc, show q = (u ++ y).length by simp; omega, List.drop_left]
  have b3 : bl (s.extract p q) = y := by
    rw [bl_extract, hl, ← hu, List.drop_left, show q - u.length = y.length by omega, List.take_left]
  have s1 : (s.extract 0 p).size = p := by rw [← bl_len, b1, hu]
  have s2 : (s.extract q s.size).size = v.length := by rw [← bl_len, b2]
  have s3 : (s.extract p q).size = y.length := by rw [← bl_len, b3]
  have s0 : (⟨#[c]⟩ : ByteArray).size = 1 := rfl
  have s4 : (s.extract 0 p ++ (⟨#[c]⟩ : ByteArray)).size = p + 1 := by rw [ByteArray.size_append, s1, s0]
  have s5 : ((s.extract 0 p ++ (⟨#[c]⟩ : ByteArray)) ++ s.extract q s.size).size = p + 1 + v.length := by rw [ByteArray.size_append, s4, s2]
  have g1 := sg_good (s := (s.extract 0 p ++ (⟨#[c]⟩ : ByteArray)) ++ s.extract q s.size) (xs := zs) (by omega) hz2 (by
    rw [bl_append, bl_append, b1, b2, ← hz3]
    show u ++ [c] ++ v = _
    simp)
  have g2 := sg_good (s := s.extract p q) (xs := [y]) (by omega) (by intro z h; rw [List.mem_singleton.mp h]; exact ty) (by rw [b3]; simp)
  refine Ev.step (f := fun k => (laws_sgSpans.f k s 0).bind fun t152 => (if (t152.length : Int) = 0 then (none) else (if 0 ≤ (Int.tmod (wrap64 (w : Int)) (t152.length : Int)) then (if (Int.tmod (wrap64 (w : Int)) (t152.length : Int)) < (t152.length : Int) then (if 0 ≤ ((rd_T32 t152 (Int.tmod (wrap64 (w : Int)) (t152.length : Int))).f0) then (if ((rd_T32 t152 (Int.tmod (wrap64 (w : Int)) (t152.length : Int))).f0) ≤ (s.size : Int) then ((some (([(c.toNat : Int)] : List Int) : List Int)).bind fun y157 => (if (s.extract 0 (((rd_T32 t152 (Int.tmod (wrap64 (w : Int)) (t152.length : Int))).f0) : Int).toNat).size + (strOfNums y157).size ≤ 9223372036854775807 then (if 0 ≤ ((rd_T32 t152 (Int.tmod (wrap64 (w : Int)) (t152.length : Int))).f1) then (if ((rd_T32 t152 (Int.tmod (wrap64 (w : Int)) (t152.length : Int))).f1) ≤ (s.size : Int) then (if ((s.extract 0 (((rd_T32 t152 (Int.tmod (wrap64 (w : Int)) (t152.length : Int))).f0) : Int).toNat) ++ (strOfNums y157)).size + (s.extract (((rd_T32 t152 (Int.tmod (wrap64 (w : Int)) (t152.length : Int))).f1) : Int).toNat s.size).size ≤ 9223372036854775807 then ((impl_SgParse.f k (((s.extract 0 (((rd_T32 t152 (Int.tmod (wrap64 (w : Int)) (t152.length : Int))).f0) : Int).toNat) ++ (strOfNums y157)) ++ (s.extract (((rd_T32 t152 (Int.tmod (wrap64 (w : Int)) (t152.length : Int))).f1) : Int).toNat s.size))).bind fun bt160 => (if ((rd_T32 t152 (Int.tmod (wrap64 (w : Int)) (t152.length : Int))).f0) ≤ ((rd_T32 t152 (Int.tmod (wrap64 (w : Int)) (t152.length : Int))).f1) then ((impl_SgParse.f k (s.extract (((rd_T32 t152 (Int.tmod (wrap64 (w : Int)) (t152.length : Int))).f0) : Int).toNat (((rd_T32 t152 (Int.tmod (wrap64 (w : Int)) (t152.length : Int))).f1) : Int).toNat)).bind fun bt162 => (if bt160.2 = true then (some bt162.2) else (some false))) else (none))) else (none)) else (none)) else (none)) else (none))) else (none)) else (none)) else (none)) else (none)))) (fun k => ?_) ?_
  · simp only [laws_FnSgReplace.j0]; rw [if_neg (by decide)]
  refine Ev.bind hF ?_
  simp only [e2, hrd, Option.bind_some, Int.toNat_natCast, hsn]
  refine ev_ite_neg (by omega) (fun _ => rfl) (ev_ite_pos (by omega) (fun _ => rfl) (ev_ite_pos (by omega) (fun _ => rfl) (ev_ite_pos (by omega) (fun _ => rfl) (ev_ite_pos (by omega) (fun _ => rfl) (ev_ite_pos (by rw [s1, s0]; omega) (fun _ => rfl) (ev_ite_pos (by omega) (fun _ => rfl) (ev_ite_pos (by omega) (fun _ => rfl) (ev_ite_pos (by rw [s4, s2]; omega) (fun _ => rfl) (Ev.bind g1 (ev_ite_pos (by omega) (fun _ => rfl) (Ev.bind g2 (ev_ite_pos rfl (fun _ => rfl) (Ev.now _)))))))))))))

theorem FnSgReplace : laws_FnSgReplace.Pure := by
  intro s which code hs hwf hwf2
  have hwh : 0 ≤ which ∧ which ≤ 65535 := bounds_u16 hwf
  have hch := bounds_u8 hwf2
  obtain ⟨w, rfl⟩ := Int.eq_ofNat_of_zero_le hwh.1
  obtain ⟨n, rfl⟩ := Int.eq_ofNat_of_zero_le hch.1
  have hcn : (((UInt8.ofNat n).toNat : Nat) : Int) = (n : Int) := by rw [UInt8.toNat_ofNat']; omega
  generalize UInt8.ofNat n = c at hcn
  rw [← hcn]
  apply Ev.rounds
  unfold laws_FnSgReplace.f
  have j0t : Ev (fun k => laws_FnSgReplace.j0 k s (w : Int) (c.toNat : Int) true) true := by
    refine Ev.step (f := fun _ => some true) (fun k => ?_) (Ev.now _)
    simp only [laws_FnSgReplace.j0]; exact if_pos trivial
  by_cases h1 : (s.size : Int) > 2147483647
  · exact ev_ite_pos h1 (fun _ => rfl) (Ev.now _)
  refine ev_ite_neg h1 (fun _ => rfl) ?_
  by_cases hbig : 1000000000 < s.size
  · have h2 : Ev (fun k => spec_Types.f k s) ([], false) := ev_ite_pos (by omega) (fun _ => rfl) (Ev.now _)
    exact Ev.bind (g := fun k => spec_Valid.f k s) (a := false) (Ev.bind h2 (Ev.now _)) (ev_ite_neg (by decide) (fun _ => rfl) j0t)
  obtain ⟨L, b, hL, hr⟩ := types s (by omega)
  have hV : Ev (fun k => spec_Valid.f k s) b := Ev.bind hL (Ev.now _)
  rcases hr with ⟨rfl, hsz, hg, hf⟩ | ⟨rfl, _, _⟩
  · refine Ev.bind hV (ev_ite_pos rfl (fun _ => rfl) ?_)
    by_cases he : s.toList = ([] : List UInt8)
    · exact ev_ite_pos he (fun _ => rfl) j0t
    · have hne : L ≠ [] := by
        intro q
        rw [q] at hf
        exact he (by rw [toList_bl, hf]; rfl)
      refine ev_ite_neg he (fun _ => rfl) ?_
      have main := replace_main s hsz L hne hg hf w (by omega) c
      rw [Go.Proofs.Ytfipimoemhbnlaa.MFnSgReplaces.basic_f]
      simp only [Option.bind_some]
      by_cases hb : basicC c = true
      · exact ev_ite_pos hb (fun _ => rfl) (main (by simp [oneC, hb]))
      · refine ev_ite_neg hb (fun _ => rfl) ?_
        by_cases h118 : c = 118
        · rw [show ((c.toNat : Int) != 118) = false by subst h118; rfl]
          exact main (by simp [oneC, h118])
        · rw [show ((c.toNat : Int) != 118) = true by rw [bne_iff_ne]; exact fun q => h118 ((num_eq 118).mp q)]
          exact j0t
  · exact Ev.bind hV (ev_ite_neg (show ¬ (false = true) by decide) (fun _ => rfl) j0t)

end Go.Proofs.Ytfipimoemhbnlaa.Pure
