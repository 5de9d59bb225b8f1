/- The package's reader of complete types: it takes each complete type (the plain notion), and, of a text without "()" and "{v", nothing else. -/
import Derived.Test.YtfipimoemhbnlaaMFnSgReplacex
import Derived.Test.YtfipimoemhbnlaaSgT
namespace Go.Proofs.Ytfipimoemhbnlaa.MFnSgReplacei
open Go Go.RowKit Go.Proofs.Ytfipimoemhbnlaa.MFnSgReplace Go.Proofs.YtfipimoemhbnlaaW.PrintWords Go.Proofs.YtfipimoemhbnlaaW.PrintLast Go.Proofs.Ytfipimoemhbnlaa.Hlp Go.Proofs.Ytfipimoemhbnlaa.SgT
set_option linter.unusedVariables false

theorem bl_drop (s : ByteArray) (p : Nat) : bl (s.extract p s.size) = (bl s).drop p := by
  rw [bl_extract]; exact List.take_of_length_le (by rw [List.length_drop, bl_len]; omega)
theorem size_drop (s : ByteArray) (p : Nat) : (s.extract p s.size).size = s.size - p := by
  rw [← bl_len, bl_drop, List.length_drop, bl_len]
theorem num_eq {c : UInt8} (d : UInt8) : (c.toNat : Int) = (d.toNat : Int) ↔ c = d := by
  constructor
  · intro h; exact UInt8.toNat_inj.mp (by exact_mod_cast h)
  · intro h; rw [h]
theorem bt_drop {s : ByteArray} {p : Nat} {c : UInt8} {r : List UInt8} (h : (bl s).drop p = c :: r) : bt s (p : Int) = (c.toNat : Int) := by
  rw [bt_getD]
  have e : (bl s).getD p 0 = ((bl s).drop p).getD 0 0 := by simp [List.getD_eq_getElem?_getD]
  rw [e, h]; rfl
theorem bt_cons {s : ByteArray} {c : UInt8} {r : List UInt8} (h : bl s = c :: r) : bt s 0 = (c.toNat : Int) := bt_drop (s := s) (p := 0) (by rw [List.drop_zero]; exact h)
theorem simple_fin : ∀ n : Fin 256, dbus_validSingle.simple (n.val : Int) = oneC (UInt8.ofNat n.val) := by decide +kernel
theorem simple_f (c : UInt8) : dbus_validSingle.simple (c.toNat : Int) = oneC c := by
  have := simple_fin ⟨c.toNat, c.toNat_lt⟩
  simpa using this
theorem drop_lt {s : ByteArray} {p : Nat} {c : UInt8} {r : List UInt8} (h : (bl s).drop p = c :: r) : p < s.size := by
  have := congrArg List.length h
  rw [List.length_drop, bl_len] at this
  simp at this; omega
theorem drop_succ {s : ByteArray} {p : Nat} {c : UInt8} {r : List UInt8} (h : (bl s).drop p = c :: r) : (bl s).drop (p + 1) = r := by
  rw [← List.drop_drop, h]; rfl

/-! ### The search for the mark that closes -/
section
variable (l r : UInt8) (hl : l.toNat < 128) (hr : r.toNat < 128) (hlr : l ≠ r)

/-- Over this piece the search goes on as it came. -/
def Skip (l r : UInt8) (y : List UInt8) : Prop := ∀ (s : ByteArray) (pos : Nat) (z : List UInt8) (n : Int), (bl s).drop pos = y ++ z → 1 ≤ n → n + y.length ≤ 4000000000 →
  ∀ res, Ev (fun k => dbus_findMatching.l0 k s (l.toNat : Int) (r.toNat : Int) n (pos + y.length)) res → Ev (fun k => dbus_findMatching.l0 k s (l.toNat : Int) (r.toNat : Int) n pos) res
/-- One round at a byte of ASCII. -/
theorem round {s : ByteArray} {pos : Nat} {c : UInt8} {z : List UInt8} (h : (bl s).drop pos = c :: z) (hc : c.toNat < 128) (L R n : Int) (k : Nat) :
    dbus_findMatching.l0 (k + 1) s L R n pos = if dbus_findMatching.step (c.toNat : Int) L R n = 0 then some (pos : Int) else dbus_findMatching.l0 k s L R (dbus_findMatching.step (c.toNat : Int) L R n) (pos + 1) := by
  have hp := drop_lt h
  have hb := bt_drop h
  obtain ⟨h1, h2⟩ := dec_lo s pos hp (by rw [hb]; omega)
  simp only [dbus_findMatching.l0]
  rw [if_pos hp, h1, h2, hb]
theorem step_l (l r : UInt8) (n : Int) (h1 : -9000000000 ≤ n) (h2 : n ≤ 9000000000) : dbus_findMatching.step (l.toNat : Int) (l.toNat : Int) (r.toNat : Int) n = n + 1 := by
  unfold dbus_findMatching.step; rw [if_pos rfl, w64 (by omega) (by omega)]
theorem step_r {l r : UInt8} (hlr : l ≠ r) (n : Int) (h1 : -9000000000 ≤ n) (h2 : n ≤ 9000000000) : dbus_findMatching.step (r.toNat : Int) (l.toNat : Int) (r.toNat : Int) n = n - 1 := by
  unfold dbus_findMatching.step; rw [if_neg (fun q => hlr ((num_eq l).mp q).symm), if_pos rfl, w64 (by omega) (by omega)]
theorem step_o {l r c : UInt8} (h1 : c ≠ l) (h2 : c ≠ r) (n : Int) : dbus_findMatching.step (c.toNat : Int) (l.toNat : Int) (r.toNat : Int) n = n := by
  unfold dbus_findMatching.step; rw [if_neg (fun q => h1 ((num_eq l).mp q)), if_neg (fun q => h2 ((num_eq r).mp q))]
theorem Skip.one {l r c : UInt8} (hc : c.toNat < 128) (h1 : c ≠ l) (h2 : c ≠ r) : Skip l r [c] := by
  intro s pos z n h hn hb res hres
  refine Ev.step (f := fun k => dbus_findMatching.l0 k s (l.toNat : Int) (r.toNat : Int) n (pos + 1)) (fun k => ?_) hres
  rw [round h hc, step_o h1 h2, if_neg (by omega)]
theorem Skip.nil (l r : UInt8) : Skip l r [] := fun s pos z n h hn hb res hres => hres
theorem Skip.app {l r : UInt8} {x y : List UInt8} (hx : Skip l r x) (hy : Skip l r y) : Skip l r (x ++ y) := by
  intro s pos z n h hn hb res hres
  rw [List.length_append] at hb hres
  refine hx s pos (y ++ z) n (by rw [h, List.append_assoc]) hn (by omega) res ?_
  refine hy s (pos + x.length) z n ?_ hn (by omega) res (by rw [Nat.add_assoc]; exact hres)
  rw [← List.drop_drop, h, List.append_assoc]; simp
theorem Skip.wrap {l r : UInt8} (hl : l.toNat < 128) (hr : r.toNat < 128) (hlr : l ≠ r) {y : List UInt8} (hy : Skip l r y) : Skip l r (l :: (y ++ [r])) := by
  intro s pos z n h hn hb res hres
  simp only [List.length_cons, List.length_append, List.length_nil] at hb hres
  have h' : (bl s).drop pos = l :: (y ++ r :: z) := by rw [h]; simp
  refine Ev.step (f := fun k => dbus_findMatching.l0 k s (l.toNat : Int) (r.toNat : Int) (n + 1) (pos + 1)) (fun k => ?_) ?_
  · rw [round h' hl, step_l l r n (by omega) (by omega), if_neg (by omega)]
  · have h2 : (bl s).drop (pos + 1) = y ++ r :: z := drop_succ h'
    refine hy s (pos + 1) (r :: z) (n + 1) h2 (by omega) (by omega) res ?_
    have h3 : (bl s).drop (pos + 1 + y.length) = r :: z := by rw [← List.drop_drop, h2]; simp
    refine Ev.step (f := fun k => dbus_findMatching.l0 k s (l.toNat : Int) (r.toNat : Int) n (pos + 1 + y.length + 1)) (fun k => ?_) ?_
    · rw [round h3 hr, step_r hlr (n + 1) (by omega) (by omega), show n + 1 - 1 = n by omega, if_neg (by omega)]
    · rw [show pos + 1 + y.length + 1 = pos + (y.length + (0 + 1) + 1) by omega]; exact hres
theorem Skip.flat {l r : UInt8} : ∀ {xs : List (List UInt8)}, (∀ x ∈ xs, Skip l r x) → Skip l r xs.flatten
  | [], _ => Skip.nil l r
  | x :: xs, h => by rw [List.flatten_cons]; exact Skip.app (h x List.mem_cons_self) (Skip.flat (fun y hy => h y (List.mem_cons_of_mem _ hy)))
end

/-- Complete types are gone over by both searches. -/
theorem skips {A B E : Int} {x : List UInt8} (t : T A B E x) : Skip 123 125 x ∧ Skip 40 41 x := by
  refine T.ind (P := fun A B E x => Skip 123 125 x ∧ Skip 40 41 x) ?_ ?_ ?_ ?_ t
  · intro A B E c _ _ _ hc
    obtain ⟨ha, _, h40, h41, h123, h125⟩ := one_ascii c hc
    exact ⟨Skip.one ha h123 h125, Skip.one ha h40 h41⟩
  · intro A B E x _ _ _ _ ih
    exact ⟨Skip.app (x := [97]) (Skip.one (by decide) (by decide) (by decide)) ih.1, Skip.app (x := [97]) (Skip.one (by decide) (by decide) (by decide)) ih.2⟩
  · intro A B E c x _ _ _ hc _ ih
    obtain ⟨ha, _, h40, h41, h123, h125⟩ := one_ascii c (by simp [oneC, hc])
    refine ⟨?_, ?_⟩
    · refine Skip.app (x := [97]) (y := 123 :: (c :: x ++ [125])) (Skip.one (by decide) (by decide) (by decide)) (Skip.wrap (by decide) (by decide) (by decide) (Skip.app (x := [c]) (Skip.one ha h123 h125) ih.1))
    · refine Skip.app (x := [97]) (y := 123 :: c :: (x ++ [125])) (Skip.one (by decide) (by decide) (by decide)) (Skip.app (x := [123]) (y := c :: (x ++ [125])) (Skip.one (by decide) (by decide) (by decide)) (Skip.app (x := [c]) (y := x ++ [125]) (Skip.one ha h40 h41) (Skip.app ih.2 (Skip.one (by decide) (by decide) (by decide)))))
  · intro A B E xs _ _ _ _ _ ih
    refine ⟨?_, Skip.wrap (by decide) (by decide) (by decide) (Skip.flat (fun x hx => (ih x hx).2))⟩
    exact Skip.app (x := [40]) (y := xs.flatten ++ [41]) (Skip.one (by decide) (by decide) (by decide)) (Skip.app (Skip.flat (fun x hx => (ih x hx).1)) (Skip.one (by decide) (by decide) (by decide)))
/-- The mark that closes the first one is found. -/
theorem found {l r : UInt8} (hl : l.toNat < 128) (hr : r.toNat < 128) (hlr : l ≠ r) {s : ByteArray} {y z : List UInt8} (h : bl s = l :: (y ++ r :: z)) (hs : s.size ≤ 1000000000) (hy : Skip l r y) :
    Ev (fun k => dbus_findMatching.f k s (l.toNat : Int) (r.toNat : Int)) ((y.length + 1 : Nat) : Int) := by
  have hlen : s.size = y.length + z.length + 2 := by rw [← bl_len, h]; simp; omega
  have h0 : (bl s).drop 0 = l :: (y ++ r :: z) := by rw [List.drop_zero]; exact h
  unfold dbus_findMatching.f
  refine Ev.step (f := fun k => dbus_findMatching.l0 k s (l.toNat : Int) (r.toNat : Int) 1 1) (fun k => ?_) ?_
  · rw [round h0 hl, step_l l r 0 (by omega) (by omega), if_neg (by omega)]; rfl
  · have h1 : (bl s).drop 1 = y ++ r :: z := drop_succ h0
    refine hy s 1 (r :: z) 1 h1 (by omega) (by omega) _ ?_
    have h3 : (bl s).drop (1 + y.length) = r :: z := by rw [← List.drop_drop, h1]; simp
    refine Ev.step (f := fun _ => some ((y.length + 1 : Nat) : Int)) (fun k => ?_) (Ev.now _)
    rw [round h3 hr, step_r hlr 1 (by omega) (by omega), if_pos (by omega)]
    congr 1; omega
/-- The search ends; where it finds a place, the closing mark stands there. -/
theorem search {l r : UInt8} (hl : l.toNat < 128) (hr : r.toNat < 128) (hlr : l ≠ r) (s : ByteArray) (hs : s.size ≤ 1000000000) (d : Nat) : ∀ (pos : Nat) (n : Int), s.size - pos = d → 1 ≤ n → n ≤ (pos : Int) + 1 → pos ≤ s.size →
    ∃ i : Int, Ev (fun k => dbus_findMatching.l0 k s (l.toNat : Int) (r.toNat : Int) n pos) i ∧ (i = -1 ∨ ∃ (j : Nat) (z : List UInt8), i = (j : Int) ∧ pos ≤ j ∧ j < s.size ∧ (bl s).drop j = r :: z) := by
  induction d using Nat.strongRecOn with
  | _ d ih =>
  intro pos n hd h1 h2 hp
  cases hc : (bl s).drop pos with
  | nil =>
    have : ¬ pos < s.size := by
      have := congrArg List.length hc
      rw [List.length_drop, bl_len] at this
      simp at this; omega
    refine ⟨-1, Ev.step (f := fun _ => some (-1)) (fun k => ?_) (Ev.now _), .inl rfl⟩
    simp only [dbus_findMatching.l0]; rw [if_neg this]
  | cons c z =>
    have hlt := drop_lt hc
    have hb := bt_drop hc
    by_cases ha : c.toNat < 128
    · by_cases e1 : c = l
      · subst e1
        obtain ⟨i, hi, hq⟩ := ih (s.size - (pos + 1)) (by omega) (pos + 1) (n + 1) rfl (by omega) (by omega) (by omega)
        refine ⟨i, Ev.step (fun k => ?_) hi, ?_⟩
        · rw [round hc ha, step_l c r n (by omega) (by omega), if_neg (by omega)]
        · rcases hq with h | ⟨j, z, e, h3, h4, h5⟩
          · exact .inl h
          · exact .inr ⟨j, z, e, by omega, h4, h5⟩
      · by_cases e2 : c = r
        · subst e2
          by_cases e3 : n = 1
          · subst e3
            refine ⟨(pos : Int), Ev.step (f := fun _ => some (pos : Int)) (fun k => ?_) (Ev.now _), .inr ⟨pos, z, rfl, Nat.le_refl _, hlt, hc⟩⟩
            rw [round hc ha, step_r hlr 1 (by omega) (by omega), if_pos (by omega)]
          · obtain ⟨i, hi, hq⟩ := ih (s.size - (pos + 1)) (by omega) (pos + 1) (n - 1) rfl (by omega) (by omega) (by omega)
            refine ⟨i, Ev.step (fun k => ?_) hi, ?_⟩
            · rw [round hc ha, step_r hlr n (by omega) (by omega), if_neg (by omega)]
            · rcases hq with h | ⟨j, z, e, h3, h4, h5⟩
              · exact .inl h
              · exact .inr ⟨j, z, e, by omega, h4, h5⟩
        · obtain ⟨i, hi, hq⟩ := ih (s.size - (pos + 1)) (by omega) (pos + 1) n rfl (by omega) (by omega) (by omega)
          refine ⟨i, Ev.step (fun k => ?_) hi, ?_⟩
          · rw [round hc ha, step_o e1 e2, if_neg (by omega)]
          · rcases hq with h | ⟨j, z, e, h3, h4, h5⟩
            · exact .inl h
            · exact .inr ⟨j, z, e, by omega, h4, h5⟩
    · obtain ⟨g1, g2⟩ := dec_hi s pos hlt (by rw [hb]; omega)
      have st : dbus_findMatching.step ((Utf8.decode s pos).1 : Int) (l.toNat : Int) (r.toNat : Int) n = n := by
        unfold dbus_findMatching.step; rw [if_neg (by omega), if_neg (by omega)]
      by_cases hle : pos + (Utf8.decode s pos).2 ≤ s.size
      · obtain ⟨i, hi, hq⟩ := ih (s.size - (pos + (Utf8.decode s pos).2)) (by omega) (pos + (Utf8.decode s pos).2) n rfl (by omega) (by omega) hle
        refine ⟨i, Ev.step (fun k => ?_) hi, ?_⟩
        · simp only [dbus_findMatching.l0]; rw [if_pos hlt, st, if_neg (by omega)]
        · rcases hq with h | ⟨j, z, e, h3, h4, h5⟩
          · exact .inl h
          · exact .inr ⟨j, z, e, by omega, h4, h5⟩
      · refine ⟨-1, Ev.step (f := fun k => dbus_findMatching.l0 k s (l.toNat : Int) (r.toNat : Int) n (pos + (Utf8.decode s pos).2)) (fun k => ?_) (Ev.step (f := fun _ => some (-1)) (fun k => ?_) (Ev.now _)), .inl rfl⟩
        · simp only [dbus_findMatching.l0]; rw [if_pos hlt, st, if_neg (by omega)]
        · simp only [dbus_findMatching.l0]; rw [if_neg (by omega)]
/-- From the first mark on. -/
theorem search0 {l r : UInt8} (hl : l.toNat < 128) (hr : r.toNat < 128) (hlr : l ≠ r) (s : ByteArray) (hs : s.size ≤ 1000000000) {q : List UInt8} (h : bl s = l :: q) :
    ∃ i : Int, Ev (fun k => dbus_findMatching.f k s (l.toNat : Int) (r.toNat : Int)) i ∧ (i = -1 ∨ ∃ (j : Nat) (z : List UInt8), i = (j : Int) ∧ 1 ≤ j ∧ j < s.size ∧ (bl s).drop j = r :: z) := by
  have h0 : (bl s).drop 0 = l :: q := by rw [List.drop_zero]; exact h
  obtain ⟨i, hi, hq⟩ := search hl hr hlr s hs (s.size - 1) 1 1 rfl (by omega) (by omega) (drop_lt h0)
  refine ⟨i, ?_, hq⟩
  unfold dbus_findMatching.f
  refine Ev.step (fun k => ?_) hi
  rw [round h0 hl, step_l l r 0 (by omega) (by omega), if_neg (by omega)]; rfl

/-! ### The reader takes complete types -/
theorem ok_of {a t d : Int} (h1 : a ≤ 32) (h2 : t ≤ 32) (h3 : d ≤ 32) : dbus_validSingle.ok a t d = true := by simp [dbus_validSingle.ok, h1, h2, h3]
theorem g_one {s : ByteArray} {c : UInt8} {q : List UInt8} (h : bl s = c :: q) (hc : oneC c = true) {a t d : Int} (h1 : a ≤ 32) (h2 : t ≤ 32) (h3 : d ≤ 32) : Ev (fun k => dbus_validSingle.g k s a t d) (none, s.extract 1 s.size) := by
  have hz : ¬ s.size = 0 := by rw [← bl_len, h]; simp
  refine Ev.step (f := fun _ => some (none, s.extract 1 s.size)) (fun k => ?_) (Ev.now _)
  simp only [dbus_validSingle.g]
  rw [if_neg hz, ok_of h1 h2 h3, if_neg (by decide), bt_cons h, simple_f, hc, if_pos rfl]
theorem g_arr {s : ByteArray} {q : List UInt8} (h : bl s = 97 :: q) (hq : ∀ r, q ≠ 123 :: r) {a t d : Int} (h1 : a ≤ 32) (h2 : t ≤ 32) (h3 : d ≤ 32) (k : Nat) :
    dbus_validSingle.g (k + 1) s a t d = dbus_validSingle.g k (s.extract 1 s.size) (wrap64 (a + 1)) t d := by
  have hz : s.size = q.length + 1 := by rw [← bl_len, h]; simp
  simp only [dbus_validSingle.g]
  rw [if_neg (by omega), ok_of h1 h2 h3, if_neg (by decide), bt_cons h, simple_f, show oneC 97 = false from by decide, if_neg (by decide), if_pos (by rfl)]
  cases q with
  | nil => simp only [List.length_nil] at hz; rw [if_neg (by omega)]
  | cons c r =>
    simp only [List.length_cons] at hz
    have hb : bt s 1 = (c.toNat : Int) := bt_drop (s := s) (p := 1) (by rw [h]; rfl)
    rw [if_pos (by omega), hb, if_neg (fun e => hq r (by rw [(num_eq 123).mp e]))]
theorem g_dict {s : ByteArray} {q : List UInt8} (h : bl s = 97 :: 123 :: q) {a t d : Int} (h1 : a ≤ 32) (h2 : t ≤ 32) (h3 : d ≤ 32) (k : Nat) :
    dbus_validSingle.g (k + 1) s a t d = (dbus_findMatching.f k (s.extract 1 s.size) 123 125).bind fun i => dbus_validSingle.dict k s a t d i := by
  have hz : s.size = q.length + 2 := by rw [← bl_len, h]; simp
  have hb : bt s 1 = 123 := bt_drop (s := s) (p := 1) (c := 123) (by rw [h]; rfl)
  simp only [dbus_validSingle.g]
  rw [if_neg (by omega), ok_of h1 h2 h3, if_neg (by decide), bt_cons h, simple_f, show oneC 97 = false from by decide, if_neg (by decide), if_pos (by rfl), if_pos (by omega), hb, if_pos rfl]
theorem g_open {s : ByteArray} {q : List UInt8} (h : bl s = 40 :: q) {a t d : Int} (h1 : a ≤ 32) (h2 : t ≤ 32) (h3 : d ≤ 32) (k : Nat) :
    dbus_validSingle.g (k + 1) s a t d = (dbus_findMatching.f k s 40 41).bind fun i => dbus_validSingle.open k s a t d i := by
  have hz : s.size = q.length + 1 := by rw [← bl_len, h]; simp
  simp only [dbus_validSingle.g]
  rw [if_neg (by omega), ok_of h1 h2 h3, if_neg (by decide), bt_cons h, simple_f, show oneC 40 = false from by decide, if_neg (by decide), if_neg (by decide), if_pos (by rfl)]

theorem l_nil (k : Nat) {u : ByteArray} (h : u.size = 0) (r : ByteArray) (a t d : Int) : dbus_validSingle.l (k + 1) none u r a t d = some (none, r) := by
  simp only [dbus_validSingle.l]; rw [if_neg (by decide), if_pos h]
theorem l_more (k : Nat) {u : ByteArray} (h : ¬ u.size = 0) (r : ByteArray) (a t d : Int) : dbus_validSingle.l (k + 1) none u r a t d = (dbus_validSingle.g k u a (wrap64 (t + 1)) d).bind fun x => dbus_validSingle.l k x.1 x.2 r a t d := by
  simp only [dbus_validSingle.l]; rw [if_neg (by decide), if_neg h]

/-- A complete type is taken, and what stands behind it is left. -/
theorem takes {A B E : Int} {x : List UInt8} (tt : T A B E x) : ∀ (s : ByteArray) (a t d : Int) (rest : List UInt8), A = 32 - a → B = 32 - t → E = 32 - d → 0 ≤ a → 0 ≤ t → 0 ≤ d → bl s = x ++ rest → s.size ≤ 1000000000 →
    Ev (fun k => dbus_validSingle.g k s a t d) (none, s.extract x.length s.size) := by
  refine T.ind (P := fun A B E x => ∀ (s : ByteArray) (a t d : Int) (rest : List UInt8), A = 32 - a → B = 32 - t → E = 32 - d → 0 ≤ a → 0 ≤ t → 0 ≤ d → bl s = x ++ rest → s.size ≤ 1000000000 →
    Ev (fun k => dbus_validSingle.g k s a t d) (none, s.extract x.length s.size)) ?_ ?_ ?_ ?_ tt
  · intro A B E c hA hB hE hc s a t d rest eA eB eE _ _ _ hb hs
    exact g_one (q := rest) hb hc (by omega) (by omega) (by omega)
  · intro A B E x hA hB hE hx ih s a t d rest eA eB eE ha ht hd hb hs
    obtain ⟨c, r, rfl, h123, _⟩ := hx.head
    have hlen : s.size = r.length + 2 + rest.length := by rw [← bl_len, hb]; simp; omega
    have hb1 : bl (s.extract 1 s.size) = (c :: r) ++ rest := by rw [bl_drop, hb]; rfl
    have := ih (s.extract 1 s.size) (a + 1) t d rest (by omega) eB eE (by omega) ht hd hb1 (by rw [size_drop]; omega)
    refine Ev.step (fun k => g_arr (q := c :: (r ++ rest)) hb (fun q e => by simp at e; exact h123 e.1) (by omega) (by omega) (by omega) k) ?_
    rw [w64 (by omega) (by omega)]
    have e : (s.extract 1 s.size).extract (c :: r).length (s.extract 1 s.size).size = s.extract (97 :: c :: r).length s.size := by
      apply bl_ext; rw [bl_drop, bl_drop, bl_drop, List.drop_drop]; congr 1; simp; omega
    rw [e] at this
    exact this
  · intro A B E c x hA hB hE hc hx ih s a t d rest eA eB eE ha ht hd hb hs
    obtain ⟨hp1, hp2, hp3⟩ := hx.pos
    have hb' : bl s = 97 :: 123 :: (c :: x ++ 125 :: rest) := by rw [hb]; simp
    have hlen : s.size = x.length + 4 + rest.length := by rw [← bl_len, hb]; simp; omega
    have hb1 : bl (s.extract 1 s.size) = 123 :: ((c :: x) ++ 125 :: rest) := by rw [bl_drop, hb']; rfl
    have hoc : oneC c = true := by simp [oneC, hc]
    obtain ⟨hca, _, _, _, h123, h125⟩ := one_ascii c hoc
    have hf := found (l := 123) (r := 125) (by decide) (by decide) (by decide) hb1 (by rw [size_drop]; omega) (Skip.app (x := [c]) (Skip.one hca h123 h125) (skips hx).1)
    simp only [List.length_cons] at hf
    refine Ev.step (fun k => g_dict hb' (by omega) (by omega) (by omega) k) (Ev.bind (a := ((x.length + 1 + 1 : Nat) : Int)) hf ?_)
    have e1 : (((x.length + 1 + 1 : Nat) : Int) + 1).toNat = x.length + 3 := by omega
    have e2 : (((x.length + 1 + 1 : Nat) : Int) + 1 + 1).toNat = x.length + 4 := by omega
    have hu : bl (s.extract 2 (x.length + 3)) = c :: x := by
      rw [bl_extract, hb', show x.length + 3 - 2 = x.length + 1 by omega]; simp
    have hus : (s.extract 2 (x.length + 3)).size = x.length + 1 := by rw [← bl_len, hu]; rfl
    have hk : bl ((s.extract 2 (x.length + 3)).extract 0 1) = [c] := by rw [bl_extract, hu]; rfl
    have hv : bl ((s.extract 2 (x.length + 3)).extract 1 (s.extract 2 (x.length + 3)).size) = x := by rw [bl_drop, hu]; rfl
    have k1 := g_one (q := []) (a := a + 1) (t := t) (d := d + 1) hk hoc (by omega) (by omega) (by omega)
    have k2 := ih ((s.extract 2 (x.length + 3)).extract 1 (s.extract 2 (x.length + 3)).size) (a + 1) t (d + 1) [] (by omega) eB (by omega) (by omega) ht (by omega) (by rw [hv]; simp) (by rw [size_drop, hus]; omega)
    refine Ev.step (f := fun k => (dbus_validSingle.g k ((s.extract 2 (x.length + 3)).extract 0 1) (a + 1) t (d + 1)).bind fun x_1 =>
        if x_1.1.isSome = true then some (x_1.1, ⟨#[]⟩) else
        (dbus_validSingle.g k ((s.extract 2 (x.length + 3)).extract 1 (s.extract 2 (x.length + 3)).size) (a + 1) t (d + 1)).bind fun y =>
        if y.1.isSome = true then some (y.1, ⟨#[]⟩) else
        if y.2.size = 0 then some (none, s.extract (x.length + 4) s.size)
        else some (dbus_validSingle.er (s.extract 2 (x.length + 3)) ⟨#[116, 111, 111, 32, 109, 97, 110, 121, 32, 116, 121, 112, 101, 115, 32, 105, 110, 32, 100, 105, 99, 116]⟩, ⟨#[]⟩)) (fun k => ?_) ?_
    · simp only [dbus_validSingle.dict]
      rw [if_neg (by omega), if_pos ⟨by omega, by omega, by omega⟩, e1, e2, if_neg (by omega), w64 (x := a + 1) (by omega) (by omega), w64 (x := d + 1) (by omega) (by omega)]
    · refine Ev.bind k1 (ev_ite_neg (show ¬ (false = true) by decide) (fun _ => rfl) (Ev.bind k2 (ev_ite_neg (show ¬ (false = true) by decide) (fun _ => rfl) (ev_ite_pos ?_ (fun _ => rfl) ?_))))
      · show (((s.extract 2 (x.length + 3)).extract 1 (s.extract 2 (x.length + 3)).size).extract x.length ((s.extract 2 (x.length + 3)).extract 1 (s.extract 2 (x.length + 3)).size).size).size = 0
        rw [size_drop, size_drop, hus]; omega
      · rw [show (97 :: 123 :: c :: (x ++ [125])).length = x.length + 4 by simp]; exact Ev.now _
  · intro A B E xs hA hB hE hn hx ih s a t d rest eA eB eE ha ht hd hb hs
    have hb' : bl s = 40 :: (xs.flatten ++ 41 :: rest) := by rw [hb]; simp
    have hlen : s.size = xs.flatten.length + 2 + rest.length := by rw [← bl_len, hb]; simp; omega
    have hf := found (l := 40) (r := 41) (by decide) (by decide) (by decide) hb' hs (Skip.flat (fun x h => (skips (hx x h)).2))
    have ht31 : t + 1 ≤ 32 := by
      cases xs with
      | nil => exact absurd rfl hn
      | cons x xs => have := (hx x List.mem_cons_self).pos; omega
    refine Ev.step (fun k => g_open hb' (by omega) (by omega) (by omega) k) (Ev.bind (a := ((xs.flatten.length + 1 : Nat) : Int)) hf ?_)
    have e1 : (((xs.flatten.length + 1 : Nat) : Int)).toNat = xs.flatten.length + 1 := by omega
    have e2 : (((xs.flatten.length + 1 : Nat) : Int) + 1).toNat = xs.flatten.length + 2 := by omega
    refine Ev.step (f := fun k => dbus_validSingle.l k none (s.extract 1 (xs.flatten.length + 1)) (s.extract (xs.flatten.length + 2) s.size) a t d) (fun k => ?_) ?_
    · simp only [dbus_validSingle.open]
      rw [if_neg (by omega), if_pos ⟨by omega, by omega, by omega⟩, e1, e2]
    · have hu : bl (s.extract 1 (xs.flatten.length + 1)) = xs.flatten := by rw [bl_extract, hb', Nat.add_sub_cancel]; simp
      have hus : (s.extract 1 (xs.flatten.length + 1)).size ≤ 1000000000 := by rw [← bl_len, hu]; omega
      have er : (40 :: (xs.flatten ++ [41])).length = xs.flatten.length + 2 := by simp
      rw [er]
      generalize s.extract (xs.flatten.length + 2) s.size = rr
      generalize s.extract 1 (xs.flatten.length + 1) = u at hu hus ⊢
      clear hf hb hb' hlen e1 e2 er hn
      induction xs generalizing u with
      | nil => exact Ev.step (f := fun _ => some (none, rr)) (fun k => l_nil k (by rw [← bl_len, hu]; rfl) rr a t d) (Ev.now _)
      | cons x xs ihx =>
        have hxl := (hx x List.mem_cons_self).len
        rw [List.flatten_cons] at hu
        refine Ev.step (fun k => l_more k (by rw [← bl_len, hu, List.length_append]; omega) rr a t d) ?_
        have h1 := ih x List.mem_cons_self u a (t + 1) d xs.flatten eA (by omega) eE ha (by omega) hd hu hus
        rw [w64 (x := t + 1) (by omega) (by omega)]
        refine Ev.bind h1 ?_
        refine ihx (fun y hy => hx y (List.mem_cons_of_mem _ hy)) (fun y hy => ih y (List.mem_cons_of_mem _ hy)) (u.extract x.length u.size) ?_ (by rw [size_drop]; omega)
        rw [bl_drop, hu]; simp
end Go.Proofs.Ytfipimoemhbnlaa.MFnSgReplacei
