-- Texts of this session, several in one.
import Derived.Test.YthcafnmagidpiaaDoorMFnVtTokensJoinx3
import Derived.Test.YthcafnmagidpiaaDoorMFnVtTokensJoinx11
import Derived.Test.YthcafnmagidpiaaDoorMFnVtTokensJoinx15
import Derived.Test.YthcafnmagidpiaaDoorMFnVtTokensJoinx16
import Derived.Test.YthcafnmagidpiaaDoorShelf
namespace Go.Proofs.YthcafnmagidpiaaDoor.MFnVtTokensJoin
open Go.RowKit Go.Proofs.YthcafnmagidpiaaDoorW.PrintWords Go.Proofs.YthcafnmagidpiaaDoorW.PrintLast Go.Proofs.YthcafnmagidpiaaDoorW.PrintMore
attribute [local go_sem] max2_int min2_int max_two min_two max_three min_three max_four min_four
set_option linter.unusedVariables false
set_option linter.unusedSimpArgs false

/-! ### the lexer's state and its next character -/
theorem dn_facts (n b0 b1 b2 b3 : Nat) (hn : 1 ≤ n) (hb : 128 ≤ b0) : 128 ≤ (Lib.decodeN n b0 b1 b2 b3).1 ∧ 1 ≤ (Lib.decodeN n b0 b1 b2 b3).2 ∧ (Lib.decodeN n b0 b1 b2 b3).2 ≤ n ∧ (1 < (Lib.decodeN n b0 b1 b2 b3).2 → 128 ≤ b1) ∧ (2 < (Lib.decodeN n b0 b1 b2 b3).2 → 128 ≤ b2) ∧ (3 < (Lib.decodeN n b0 b1 b2 b3).2 → 128 ≤ b3) ∧ (Lib.decodeN n b0 b1 b2 b3).2 ≤ 4 := by
  unfold Lib.decodeN
  repeat' split
  all_goals (refine ⟨?_, ?_, ?_, ?_, ?_, ?_, ?_⟩ <;> simp only <;> omega)
/-- A text's next character and how many bytes it has: at the end -1; a byte of ASCII; or one beyond ASCII, all of whose bytes are beyond ASCII. -/
def Nx (l : List UInt8) (r : Int) (k : Nat) : Prop :=
  (l = [] ∧ r = -1 ∧ k = 0) ∨ (∃ c t, l = c :: t ∧ c.toNat < 128 ∧ r = (c.toNat : Int) ∧ k = 1) ∨ (∃ c t, l = c :: t ∧ 128 ≤ c.toNat ∧ 128 ≤ r ∧ 1 ≤ k ∧ k ≤ l.length ∧ ∀ x ∈ l.take k, 128 ≤ x.toNat)
theorem Nx.le {l : List UInt8} {r : Int} {k : Nat} (h : Nx l r k) : k ≤ l.length := by
  rcases h with ⟨rfl, _, rfl⟩ | ⟨c, t, rfl, _, _, rfl⟩ | ⟨c, t, rfl, _, _, _, h, _⟩
  · exact Nat.le_refl _
  · simp
  · exact h
theorem nx_of (s : ByteArray) (h : 0 < s.size) : Nx s.data.toList ((Lib.decodeGo s).1 : Int) (Lib.decodeGo s).2 := by
  have hl : s.data.toList.length = s.size := rfl
  have hg : ∀ j, (hj : j < s.size) → s.get! j = s.data.toList[j]'hj := fun j hj => (Utf8W.get!_of_lt s j hj).trans rfl
  have hd : Lib.decodeGo s = Lib.decodeN s.size (s.get! 0).toNat (s.get! 1).toNat (s.get! 2).toNat (s.get! 3).toNat := by
    unfold Lib.decodeGo
    rw [if_neg (by omega), Lib.decode_at]
    rfl
  rw [hd]
  cases hc : s.data.toList with
  | nil => rw [hc] at hl; simp at hl; omega
  | cons c t =>
    have h0 : s.get! 0 = c := by rw [hg 0 h]; simp [hc]
    by_cases hlo : c.toNat < 128
    · refine .inr (.inl ⟨c, t, rfl, hlo, ?_, ?_⟩)
      · unfold Lib.decodeN; rw [if_pos (by rw [h0]; exact hlo), h0]
      · unfold Lib.decodeN; rw [if_pos (by rw [h0]; exact hlo)]
    · have F := dn_facts s.size (s.get! 0).toNat (s.get! 1).toNat (s.get! 2).toNat (s.get! 3).toNat (by omega) (by rw [h0]; omega)
      obtain ⟨d, hd'⟩ : ∃ d, Lib.decodeN s.size (s.get! 0).toNat (s.get! 1).toNat (s.get! 2).toNat (s.get! 3).toNat = d := ⟨_, rfl⟩
      rw [hd'] at F ⊢
      refine .inr (.inr ⟨c, t, rfl, by omega, by omega, F.2.1, by rw [← hc, hl]; exact F.2.2.1, ?_⟩)
      intro x hx
      rw [← hc] at hx
      obtain ⟨j, hj, rfl⟩ := List.mem_iff_getElem.1 hx
      rw [List.length_take] at hj
      have hjs : j < s.size := by omega
      rw [List.getElem_take, ← hg j hjs]
      match j, hj with
      | 0, _ => rw [h0]; omega
      | 1, hj => exact F.2.2.2.1 (by omega)
      | 2, hj => exact F.2.2.2.2.1 (by omega)
      | 3, hj => exact F.2.2.2.2.2.1 (by omega)
      | j + 4, hj => have := F.2.2.2.2.2.2; omega
theorem utabs_up {w W : World} (h : Lib.Utf8Tabs 0 1 w) (hb : Below w.heap.size w W) : Lib.Utf8Tabs 0 1 W :=
  ⟨fun c hc => pw_cell_below hb (h.1 c hc), fun i hi => ⟨pw_cell_below hb (h.2 i hi).1, pw_cell_below hb (h.2 i hi).2⟩⟩
/-- The lexer at g: its text, where the token begins, where it is, the last character's width, the tokens. -/
def Lx (w0 w : World) (g : Nat) (a : ByteArray) (st pos wd : Nat) (ts : List S48) : Prop :=
  w0.heap.size ≤ g ∧ Below w0.heap.size w0 w ∧ ∃ A, w.heap[g]? = some (.cells #[.string a, .int .i64 (st : Int), .int .i64 (pos : Int), .int .i64 (wd : Int), A] 59 (0, 0)) ∧ Kd.R k48 48 w w0.heap.size (fun _ => True) A ts
theorem Lx.drewN {w0 w : World} {g : Nat} {a : ByteArray} {st pos wd : Nat} {ts : List S48} (h : Lx w0 w g a st pos wd ts) (n : Nat) : Lx w0 (w.drewN n) g a st pos wd ts := by
  obtain ⟨h1, h2, A, h3, h4⟩ := h
  exact ⟨h1, pw_below_drewN h2 n, A, h3, Kd.R_drewN h4 n⟩
theorem Lx.drew {w0 w : World} {g : Nat} {a : ByteArray} {st pos wd : Nat} {ts : List S48} (h : Lx w0 w g a st pos wd ts) : Lx w0 w.drew g a st pos wd ts := by
  obtain ⟨h1, h2, A, h3, h4⟩ := h
  exact ⟨h1, below_drew1 h2, A, h3, Kd.R_drew h4⟩
theorem Lx.below {w0 w w' : World} {g : Nat} {a : ByteArray} {st pos wd : Nat} {ts : List S48} (h : Lx w0 w g a st pos wd ts) (hb : Below w.heap.size w w') : Lx w0 w' g a st pos wd ts := by
  obtain ⟨h1, h2, A, h3, h4⟩ := h
  exact ⟨h1, below_step h2 hb, A, (hb.block g (Array.getElem?_eq_some_iff.1 h3).1).trans h3, Kd.R_below h4 hb⟩
theorem Lx.kp {w0 w : World} {g i : Nat} {v : Value} {A : Value} {ts : List S48} {cs : Array Value} (h1 : w0.heap.size ≤ g) (h2 : Below w0.heap.size w0 w) (h3 : w.heap[g]? = some (.cells cs 59 (0, 0))) (h4 : Kd.R k48 48 w w0.heap.size (fun _ => True) A ts) :
    Below w0.heap.size w0 (w.setCell ⟨g, i, none⟩ v) ∧ (w.setCell ⟨g, i, none⟩ v).heap[g]? = some (.cells (cs.setIfInBounds i v) 59 (0, 0)) ∧ Kd.R k48 48 (w.setCell ⟨g, i, none⟩ v) w0.heap.size (fun _ => True) A ts := by
  refine ⟨h2.setCell h1 _, heap_setCell_same w g i cs 59 v h3, Kd.R_mono (Kd.R_move (Kd.R_bound h4) fun k ho => ?_) (fun _ _ => trivial)⟩
  obtain ⟨_, _, _, q, hq, cells, hc⟩ := ho
  refine Below.heap_setCell w _ v k ?_
  intro e
  have e' : k = g := e
  subst e'
  rw [h3] at hc
  injection hc with hc
  injection hc with _ hc _
  subst hc
  simp [k48, Kd.iso, Kd.pair, Kd.int, Kd.string, Kd.scalar] at hq
theorem Lx.set1 {w0 w : World} {g : Nat} {a : ByteArray} {st pos wd : Nat} {ts : List S48} (h : Lx w0 w g a st pos wd ts) (x : Nat) : Lx w0 (w.setCell ⟨g, 1, none⟩ (.int .i64 (x : Int))) g a x pos wd ts := by
  obtain ⟨h1, h2, A, h3, h4⟩ := h
  obtain ⟨q1, q2, q3⟩ := Lx.kp (i := 1) (v := .int .i64 (x : Int)) h1 h2 h3 h4
  exact ⟨h1, q1, A, q2, q3⟩
theorem Lx.set2 {w0 w : World} {g : Nat} {a : ByteArray} {st pos wd : Nat} {ts : List S48} (h : Lx w0 w g a st pos wd ts) (x : Nat) : Lx w0 (w.setCell ⟨g, 2, none⟩ (.int .i64 (x : Int))) g a st x wd ts := by
  obtain ⟨h1, h2, A, h3, h4⟩ := h
  obtain ⟨q1, q2, q3⟩ := Lx.kp (i := 2) (v := .int .i64 (x : Int)) h1 h2 h3 h4
  exact ⟨h1, q1, A, q2, q3⟩
theorem Lx.set3 {w0 w : World} {g : Nat} {a : ByteArray} {st pos wd : Nat} {ts : List S48} (h : Lx w0 w g a st pos wd ts) (x : Nat) : Lx w0 (w.setCell ⟨g, 3, none⟩ (.int .i64 (x : Int))) g a st pos x ts := by
  obtain ⟨h1, h2, A, h3, h4⟩ := h
  obtain ⟨q1, q2, q3⟩ := Lx.kp (i := 3) (v := .int .i64 (x : Int)) h1 h2 h3 h4
  exact ⟨h1, q1, A, q2, q3⟩
theorem Lx.c0 {w0 w : World} {g : Nat} {a : ByteArray} {st pos wd : Nat} {ts : List S48} (h : Lx w0 w g a st pos wd ts) : w.cell? ⟨g, 0, none⟩ = some (.string a) := by
  obtain ⟨_, _, A, h3, _⟩ := h
  exact (blk_cell h3 0).trans rfl
theorem Lx.c1 {w0 w : World} {g : Nat} {a : ByteArray} {st pos wd : Nat} {ts : List S48} (h : Lx w0 w g a st pos wd ts) : w.cell? ⟨g, 1, none⟩ = some (.int .i64 (st : Int)) := by
  obtain ⟨_, _, A, h3, _⟩ := h
  exact (blk_cell h3 1).trans rfl
theorem Lx.c2 {w0 w : World} {g : Nat} {a : ByteArray} {st pos wd : Nat} {ts : List S48} (h : Lx w0 w g a st pos wd ts) : w.cell? ⟨g, 2, none⟩ = some (.int .i64 (pos : Int)) := by
  obtain ⟨_, _, A, h3, _⟩ := h
  exact (blk_cell h3 2).trans rfl
theorem Lx.c3 {w0 w : World} {g : Nat} {a : ByteArray} {st pos wd : Nat} {ts : List S48} (h : Lx w0 w g a st pos wd ts) : w.cell? ⟨g, 3, none⟩ = some (.int .i64 (wd : Int)) := by
  obtain ⟨_, _, A, h3, _⟩ := h
  exact (blk_cell h3 3).trans rfl
theorem Lx.fz {w0 w : World} {g : Nat} {a : ByteArray} {st pos wd : Nat} {ts : List S48} (h : Lx w0 w g a st pos wd ts) (i : Nat) : w.frozen? ⟨g, i, none⟩ = false := by
  obtain ⟨_, _, A, h3, _⟩ := h
  exact blk_frozen h3 i
theorem back_calls (w0 w : World) (g : Nat) (a : ByteArray) (st pos wd : Nat) (ts : List S48) (hx : Lx w0 w g a st pos wd ts) (hp : wd ≤ pos) (hq : pos ≤ 100000) :
    Calls Tryd.prog 36 #[.pointer (some ⟨g, 0, none⟩)] w fun e w' => e = .returned (.tuple #[]) ∧ Lx w0 w' g a st (pos - wd) wd ts := by
  have HX := Aside0.mk hx
  have c2 := hx.c2
  have c3 := hx.c3
  have f2 := hx.fz 2
  have hw1 : IntKind.i64.wrap ((pos : Int) - (wd : Int)) = ((pos - wd : Nat) : Int) := by rw [IntKind.wrap_i64]; omega
  clear hx
  go_enter Tryd.func36, Tryd.ntmps36
  go_upto_region 0 with (fail)
  go_region_with (fail)
  all_goals
    go_wp2
    first | go_end0 | ((try simp only [Exit.inBlock, Exit.then]); refine bodyPost_ret (results_none rfl _ _ _) rfl ?_)
    exact ⟨rfl, by repeat (first | exact HX.out | apply Lx.drewN | apply Lx.drew | apply Lx.set2)⟩
theorem ext_list (a : ByteArray) (p : Nat) : (a.extract p a.size).data.toList = a.data.toList.drop p := by
  rw [Lib.extract_data]
  exact List.take_of_length_le (by rw [List.length_drop]; exact Nat.le_refl _)
def NextPost (w0 : World) (g : Nat) (a : ByteArray) (st pos : Nat) (ts : List S48) (e : Ending) (w' : World) : Prop :=
  ∃ (r : Int) (k : Nat), Nx (a.data.toList.drop pos) r k ∧ e = .returned (.int .i32 r) ∧ Lx w0 w' g a st (pos + k) k ts
set_option maxHeartbeats 1000000 in
theorem next_calls (w0 w : World) (g : Nat) (a : ByteArray) (st pos wd : Nat) (ts : List S48) (hx : Lx w0 w g a st pos wd ts) (hp : pos ≤ a.size) (hq : a.size ≤ 100000) (hT : Lib.Utf8Tabs 0 1 w0) :
    Calls Tryd.prog 34 #[.pointer (some ⟨g, 0, none⟩)] w (NextPost w0 g a st pos ts) := by
  have hl : (a.data.toList.drop pos).length = a.size - pos := by rw [List.length_drop]; rfl
  have HX := Aside0.mk hx
  have c0 := hx.c0
  have c2 := hx.c2
  have c3 := hx.c3
  have f3 := hx.fz 3
  by_cases he : pos = a.size
  · have d1 : decide ((a.size : Int) ≤ (pos : Int)) = true := by simp; omega
    have d2 : decide (a.size ≤ pos) = true := by simp; omega
    have hn : Nx (a.data.toList.drop pos) (-1) 0 := .inl ⟨List.eq_nil_of_length_eq_zero (by omega), rfl, rfl⟩
    have HN := Aside0.mk hn
    clear hx hn hl
    go_enter Tryd.func34, Tryd.ntmps34
    go_upto_region 2 with (fail)
    go_quiet (fail)
    go_wp2
    go_ret
    exact ⟨-1, 0, HN.out, rfl, by repeat (first | exact HX.out | apply Lx.drewN | apply Lx.drew | apply Lx.set3)⟩
  · have d1 : decide ((a.size : Int) ≤ (pos : Int)) = false := by simp; omega
    have d2 : decide (a.size ≤ pos) = false := by simp; omega
    have hsz : (a.extract pos a.size).size = a.size - pos := by rw [ByteArray.size_extract]; omega
    have hn := nx_of (a.extract pos a.size) (by rw [hsz]; omega)
    rw [ext_list] at hn
    obtain ⟨r, hr⟩ : ∃ r : Nat, (Lib.decodeGo (a.extract pos a.size)).1 = r := ⟨_, rfl⟩
    obtain ⟨k, hk⟩ : ∃ k : Nat, (Lib.decodeGo (a.extract pos a.size)).2 = k := ⟨_, rfl⟩
    rw [hr, hk] at hn
    have hkl : k ≤ a.size - pos := by rw [← hl]; exact hn.le
    have HN := Aside0.mk hn
    have HD := Aside0.mk (fun W hW => Tryd.utf8_DecodeRuneInString (a.extract pos a.size) W hW)
    rw [hr, hk] at HD
    have HT := Aside0.mk hT
    have hw1 : IntKind.i64.wrap ((pos : Int) + (k : Int)) = ((pos + k : Nat) : Int) := by rw [IntKind.wrap_i64]; omega
    clear hx hn hl hT hr hk
    go_enter Tryd.func34, Tryd.ntmps34
    go_upto_region 2 with (fail)
    go_quiet (fail)
    go_upto_region 5 with (fail)
    go_region_with (go_at_call 46; refine (HD.out _ (utabs_up HT.out (by first | exact HX.out.2.1 | exact (Lx.drewN HX.out _).2.1))).mono ?_; rintro e w2 ⟨rfl, hb⟩; have HX2 := Aside0.mk (Lx.below (by first | exact HX.out | exact Lx.drewN HX.out _) hb); clear hb; have c0' := HX2.out.c0; have c2' := HX2.out.c2; have c3' := HX2.out.c3; have f3' := HX2.out.fz 3; have f2' := HX2.out.fz 2; clear c0 c2 c3 f3)
    all_goals
      go_wp2
      go_region_with (fail)
      all_goals
        go_wp2
        go_ret
        exact ⟨r, k, HN.out, rfl, by repeat (first | exact HX2.out | apply Lx.drewN | apply Lx.drew | apply Lx.set3 | apply Lx.set2)⟩
/-! ### small functions of the lexer -/
def hasb (v : ByteArray) (r : Int) : Bool := v.data.toList.any fun c => (c.toNat : Int) == r
def Asc (v : ByteArray) : Prop := ∀ c ∈ v.data.toList, c.toNat < 128
theorem hasb_false {v : ByteArray} {r : Int} (h : ∀ j (hj : j < v.data.toList.length), ((v.data.toList[j].toNat : Int)) ≠ r) : hasb v r = false := by
  unfold hasb
  rw [List.any_eq_false]
  intro c hc
  obtain ⟨j, hj, rfl⟩ := List.mem_iff_getElem.1 hc
  simpa using h j hj
theorem hasb_true {v : ByteArray} {r : Int} (j : Nat) (hj : j < v.data.toList.length) (h : ((v.data.toList[j].toNat : Int)) = r) : hasb v r = true := by
  unfold hasb
  rw [List.any_eq_true]
  exact ⟨_, List.getElem_mem hj, by simpa using h⟩
theorem hasb_out {v : ByteArray} {r : Int} (ha : Asc v) (h : r < 0 ∨ 128 ≤ r) : hasb v r = false :=
  hasb_false fun j hj e => by have := ha _ (List.getElem_mem hj); omega
def IdxPost (v : ByteArray) (r : Int) (W : World) (e : Ending) (w' : World) : Prop := ∃ i : Int, e = .returned (.int .i64 i) ∧ decide (0 ≤ i) = hasb v r ∧ Below W.heap.size W w'
set_option maxHeartbeats 2000000 in
set_option maxRecDepth 100000 in
theorem idx_loop (v : ByteArray) (r : Int) (w : World) (ha : Asc v) (hr : r = 65533 ∨ (0 ≤ r ∧ r ≤ 1114111 ∧ (r < 55296 ∨ 57343 < r))) : Calls Tryd.prog 55 #[.string v, .int .i32 r] w (IdxPost v r w) := by
  have HA := Aside0.mk ha
  go_enter Tryd.func55, Tryd.ntmps55
  by_cases h1 : r = 65533
  · subst h1
    go_wp2
    go_loopg [] (v.size) (fun kq w' => ∃ pos : Nat, pos ≤ v.size ∧ Aside0 (kq = v.size - pos ∧ (∀ j (hj : j < v.data.toList.length), j < pos → ((v.data.toList[j].toNat : Int)) ≠ 65533) ∧ w'.heap[w.heap.size]? = some (.stringIter v pos) ∧ Below w.heap.size w w'))
    case atStart => exact ⟨0, Nat.zero_le _, ⟨rfl, fun j _ h => by omega, World.iter_heap w v 0, (Below.refl _ _).alloc (Nat.le_refl _) _⟩⟩
    case round =>
      obtain ⟨pos, hpos, HI⟩ := hrel
      by_cases hp : pos < v.size
      · have hl : pos < v.data.toList.length := hp
        have hc0 := HA.out _ (List.getElem_mem hl)
        have hd := Go.decode_ascii v pos hp hc0
        have hne : ((v.data.toList[pos].toNat : Int) == 65533) = false := beq_eq_false_iff_ne.2 (by omega)
        have hnx : ∀ ty, (Instr.next (.pointer (some ⟨w.heap.size, 0, none⟩)) true ty).run Tryd.prog wr = _ := fun ty => Lib.run_next_any_at wr w.heap.size v pos ty HI.out.2.2.1 hp
        have hit2 := Aside0.mk (Lib.iterAt_heap wr w.heap.size v pos (pos + (Utf8.decode v pos).2) HI.out.2.2.1)
        have hbw2 := Aside0.mk (Lib.below_iterAt HI.out.2.2.2 (k := w.heap.size) (Nat.le_refl _) v (pos + (Utf8.decode v pos).2))
        rw [hd] at hnx hit2 hbw2
        obtain ⟨W1, hW1⟩ : ∃ W1, W1 = wr.iterAt w.heap.size v (pos + 1) := ⟨_, rfl⟩
        simp only at hnx hit2 hbw2
        rw [← hW1] at hnx hit2 hbw2
        have hne2 : ((v[pos].toNat : Int) == 65533) = false := hne
        clear hW1
        go_wp2
        go_roundg (v.size - (pos + 1))
        case measure => have := HI.out.1; omega
        case rel =>
          refine ⟨pos + 1, hp, ⟨rfl, fun j hj hlt => ?_, hit2.out, hbw2.out⟩⟩
          have := HA.out _ (List.getElem_mem hj)
          omega
      · have hnx : ∀ ty, (Instr.next (.pointer (some ⟨w.heap.size, 0, none⟩)) true ty).run Tryd.prog wr = _ := fun ty => Lib.run_next_end_at wr w.heap.size v pos ty HI.out.2.2.1 hp
        go_wp2
        go_ret
        refine ⟨-1, rfl, ?_, HI.out.2.2.2⟩
        rw [hasb_out HA.out (by omega)]
        rfl
  · have h1b : (r != 65533) = true := bne_iff_ne.2 h1
    have h2b : decide (r < 0) = false := by simp; omega
    have h3b : decide (1114111 < r) = false := by simp; omega
    by_cases h4 : 55296 ≤ r
    · have h4b : decide (55296 ≤ r) = true := by simpa using h4
      have h5b : decide (r ≤ 57343) = false := by simp; omega
      go_wp2
      go_loopg [] (v.size) (fun kq w' => ∃ pos : Nat, pos ≤ v.size ∧ Aside0 (kq = v.size - pos ∧ (∀ j (hj : j < v.data.toList.length), j < pos → ((v.data.toList[j].toNat : Int)) ≠ r) ∧ w'.heap[w.heap.size]? = some (.stringIter v pos) ∧ Below w.heap.size w w'))
      case atStart => exact ⟨0, Nat.zero_le _, ⟨rfl, fun j _ h => by omega, World.iter_heap w v 0, (Below.refl _ _).alloc (Nat.le_refl _) _⟩⟩
      case round =>
        obtain ⟨pos, hpos, HI⟩ := hrel
        by_cases hp : pos < v.size
        · have hl : pos < v.data.toList.length := hp
          have hc0 := HA.out _ (List.getElem_mem hl)
          have hd := Go.decode_ascii v pos hp hc0
          have hne : ((v.data.toList[pos].toNat : Int) == r) = false := beq_eq_false_iff_ne.2 (by omega)
          have hnx : ∀ ty, (Instr.next (.pointer (some ⟨w.heap.size, 0, none⟩)) true ty).run Tryd.prog wr = _ := fun ty => Lib.run_next_any_at wr w.heap.size v pos ty HI.out.2.2.1 hp
          have hit2 := Aside0.mk (Lib.iterAt_heap wr w.heap.size v pos (pos + (Utf8.decode v pos).2) HI.out.2.2.1)
          have hbw2 := Aside0.mk (Lib.below_iterAt HI.out.2.2.2 (k := w.heap.size) (Nat.le_refl _) v (pos + (Utf8.decode v pos).2))
          rw [hd] at hnx hit2 hbw2
          obtain ⟨W1, hW1⟩ : ∃ W1, W1 = wr.iterAt w.heap.size v (pos + 1) := ⟨_, rfl⟩
          simp only at hnx hit2 hbw2
          rw [← hW1] at hnx hit2 hbw2
          have hne2 : ((v[pos].toNat : Int) == r) = false := hne
          clear hW1
          go_wp2
          go_roundg (v.size - (pos + 1))
          case measure => have := HI.out.1; omega
          case rel =>
            refine ⟨pos + 1, hp, ⟨rfl, fun j hj hlt => ?_, hit2.out, hbw2.out⟩⟩
            have := HA.out _ (List.getElem_mem hj)
            omega
        · have hnx : ∀ ty, (Instr.next (.pointer (some ⟨w.heap.size, 0, none⟩)) true ty).run Tryd.prog wr = _ := fun ty => Lib.run_next_end_at wr w.heap.size v pos ty HI.out.2.2.1 hp
          go_wp2
          go_ret
          refine ⟨-1, rfl, ?_, HI.out.2.2.2⟩
          rw [hasb_out HA.out (by omega)]
          rfl
    · have h4b : decide (55296 ≤ r) = false := by simpa using h4
      go_wp2
      go_loopg [] (v.size) (fun kq w' => ∃ pos : Nat, pos ≤ v.size ∧ Aside0 (kq = v.size - pos ∧ (∀ j (hj : j < v.data.toList.length), j < pos → ((v.data.toList[j].toNat : Int)) ≠ r) ∧ w'.heap[w.heap.size]? = some (.stringIter v pos) ∧ Below w.heap.size w w'))
      case atStart => exact ⟨0, Nat.zero_le _, ⟨rfl, fun j _ h => by omega, World.iter_heap w v 0, (Below.refl _ _).alloc (Nat.le_refl _) _⟩⟩
      case round =>
        obtain ⟨pos, hpos, HI⟩ := hrel
        by_cases hp : pos < v.size
        · have hl : pos < v.data.toList.length := hp
          have hc0 := HA.out _ (List.getElem_mem hl)
          have hd := Go.decode_ascii v pos hp hc0
          have hnx : ∀ ty, (Instr.next (.pointer (some ⟨w.heap.size, 0, none⟩)) true ty).run Tryd.prog wr = _ := fun ty => Lib.run_next_any_at wr w.heap.size v pos ty HI.out.2.2.1 hp
          have hit2 := Aside0.mk (Lib.iterAt_heap wr w.heap.size v pos (pos + (Utf8.decode v pos).2) HI.out.2.2.1)
          have hbw2 := Aside0.mk (Lib.below_iterAt HI.out.2.2.2 (k := w.heap.size) (Nat.le_refl _) v (pos + (Utf8.decode v pos).2))
          rw [hd] at hnx hit2 hbw2
          obtain ⟨W1, hW1⟩ : ∃ W1, W1 = wr.iterAt w.heap.size v (pos + 1) := ⟨_, rfl⟩
          simp only at hnx hit2 hbw2
          rw [← hW1] at hnx hit2 hbw2
          clear hW1
          by_cases he : (v.data.toList[pos].toNat : Int) = r
          · have hne2 : ((v[pos].toNat : Int) == r) = true := beq_iff_eq.2 he
            go_wp2
            go_ret
            refine ⟨(pos : Int), rfl, ?_, hbw2.out⟩
            rw [hasb_true pos hl he]
            simp
          · have hne2 : ((v[pos].toNat : Int) == r) = false := beq_eq_false_iff_ne.2 he
            go_wp2
            go_roundg (v.size - (pos + 1))
            case measure => have := HI.out.1; omega
            case rel =>
              refine ⟨pos + 1, hp, ⟨rfl, fun j hj hlt => ?_, hit2.out, hbw2.out⟩⟩
              by_cases hj2 : j < pos
              · exact HI.out.2.1 j hj hj2
              · have : j = pos := by omega
                subst this
                exact he
        · have hnx : ∀ ty, (Instr.next (.pointer (some ⟨w.heap.size, 0, none⟩)) true ty).run Tryd.prog wr = _ := fun ty => Lib.run_next_end_at wr w.heap.size v pos ty HI.out.2.2.1 hp
          go_wp2
          go_ret
          refine ⟨-1, rfl, ?_, HI.out.2.2.2⟩
          rw [hasb_false fun j hj => HI.out.2.1 j hj (by have : v.data.toList.length = v.size := rfl; omega)]
          rfl
theorem idx_calls (v : ByteArray) (r : Int) (w : World) (ha : Asc v) : Calls Tryd.prog 55 #[.string v, .int .i32 r] w (IdxPost v r w) := by
  by_cases hr : r = 65533 ∨ (0 ≤ r ∧ r ≤ 1114111 ∧ (r < 55296 ∨ 57343 < r))
  · exact idx_loop v r w ha hr
  · have hf := Aside0.mk (hasb_out ha (r := r) (by omega))
    have h1b : (r != 65533) = true := bne_iff_ne.2 (by omega)
    go_enter Tryd.func55, Tryd.ntmps55
    by_cases h2 : r < 0
    · have h2b : decide (r < 0) = true := by simpa using h2
      go_wp2
      go_ret
      exact ⟨-1, rfl, by rw [hf.out]; rfl, Below.refl _ _⟩
    · have h2b : decide (r < 0) = false := by simp; omega
      by_cases h3 : 1114111 < r
      · have h3b : decide (1114111 < r) = true := by simpa using h3
        go_wp2
        go_ret
        exact ⟨-1, rfl, by rw [hf.out]; rfl, Below.refl _ _⟩
      · have h3b : decide (1114111 < r) = false := by simp; omega
        have h4b : decide (55296 ≤ r) = true := by simp; omega
        have h5b : decide (r ≤ 57343) = true := by simp; omega
        go_wp2
        go_ret
        exact ⟨-1, rfl, by rw [hf.out]; rfl, Below.refl _ _⟩
theorem has_calls (v : ByteArray) (r : Int) (w : World) (ha : Asc v) : Calls Tryd.prog 51 #[.string v, .int .i32 r] w fun e w' => e = .returned (.bool (hasb v r)) ∧ Below w.heap.size w w' := by
  have HC := Aside0.mk (idx_calls v r w ha)
  go_enter Tryd.func51, Tryd.ntmps51
  go_wp2_with (go_at_call 55; refine HC.out.mono ?_; rintro e w2 ⟨i, rfl, hi, hb⟩; have HI := Aside0.mk hi; have HB := Aside0.mk hb; clear hi hb)
  go_ret
  exact ⟨by rw [← HI.out]; rfl, HB.out⟩
theorem ign_calls (w0 w : World) (g : Nat) (a : ByteArray) (st pos wd : Nat) (ts : List S48) (hx : Lx w0 w g a st pos wd ts) :
    Calls Tryd.prog 40 #[.pointer (some ⟨g, 0, none⟩)] w fun e w' => e = .returned (.tuple #[]) ∧ Lx w0 w' g a pos pos wd ts := by
  have HX := Aside0.mk hx
  have c1 := hx.c1
  have c2 := hx.c2
  have f1 := hx.fz 1
  clear hx
  go_enter Tryd.func40, Tryd.ntmps40
  go_wp2
  first | go_end0 | ((try simp only [Exit.inBlock, Exit.then]); refine bodyPost_ret (results_none rfl _ _ _) rfl ?_)
  exact ⟨rfl, by repeat (first | exact HX.out | apply Lx.drewN | apply Lx.drew | apply Lx.set1)⟩
theorem peek_calls (w0 w : World) (g : Nat) (a : ByteArray) (st pos wd : Nat) (ts : List S48) (hx : Lx w0 w g a st pos wd ts) (hp : pos ≤ a.size) (hq : a.size ≤ 100000) (hT : Lib.Utf8Tabs 0 1 w0) :
    Calls Tryd.prog 43 #[.pointer (some ⟨g, 0, none⟩)] w fun e w' => ∃ (r : Int) (k : Nat), Nx (a.data.toList.drop pos) r k ∧ e = .returned (.int .i32 r) ∧ Lx w0 w' g a st pos k ts := by
  have HN := Aside0.mk (next_calls w0 w g a st pos wd ts hx hp hq hT)
  have HB := Aside0.mk (fun W k ts (h : Lx w0 W g a st (pos + k) k ts) (hk : pos + k ≤ 100000) => back_calls w0 W g a st (pos + k) k ts h (by omega) hk)
  have hl : (a.data.toList.drop pos).length = a.size - pos := by rw [List.length_drop]; rfl
  clear hx hT
  go_enter Tryd.func43, Tryd.ntmps43
  go_wp2_with (first | (go_at_call 34; refine HN.out.mono ?_; rintro e w2 ⟨r, k, hn, rfl, hx2⟩; have hkl := hn.le; rw [hl] at hkl; have HN2 := Aside0.mk hn; have HX2 := Aside0.mk hx2; clear hn hx2) | (go_at_call 36; refine (HB.out _ _ _ HX2.out (by omega)).mono ?_; rintro e w3 ⟨rfl, hx3⟩; have HX3 := Aside0.mk hx3; clear hx3))
  go_ret
  exact ⟨r, k, HN2.out, rfl, by have := HX3.out; rwa [Nat.add_sub_cancel] at this⟩
theorem hd_nx {v : ByteArray} {l : List UInt8} {r : Int} {k : Nat} (ha : Asc v) (h : Nx l r k) : hasb v r = hd v l ∧ (hd v l = true → k = 1 ∧ ∃ c t, l = c :: t) := by
  rcases h with ⟨rfl, rfl, rfl⟩ | ⟨c, t, rfl, hc, rfl, rfl⟩ | ⟨c, t, rfl, hc, hr, _⟩
  · exact ⟨hasb_out ha (by omega), fun h => by cases h⟩
  · refine ⟨?_, fun _ => ⟨rfl, c, t, rfl⟩⟩
    rw [Bool.eq_iff_iff]
    simp only [hasb, hd, List.any_eq_true, beq_iff_eq, List.contains_iff_mem]
    constructor
    · rintro ⟨x, hx, e⟩
      have : x = c := UInt8.toNat_inj.mp (by exact_mod_cast e)
      rwa [← this]
    · exact fun h => ⟨c, h, rfl⟩
  · have hf : hd v (c :: t) = false := by
      cases hh : hd v (c :: t) with
      | false => rfl
      | true =>
        simp only [hd, List.contains_iff_mem] at hh
        have := ha c hh
        omega
    exact ⟨by rw [hf]; exact hasb_out ha (.inr hr), fun h => by rw [hf] at h; cases h⟩
theorem acc_calls (w0 w : World) (g : Nat) (a : ByteArray) (st pos wd : Nat) (ts : List S48) (v : ByteArray) (ha : Asc v) (hx : Lx w0 w g a st pos wd ts) (hp : pos ≤ a.size) (hq : a.size ≤ 100000) (hT : Lib.Utf8Tabs 0 1 w0) :
    Calls Tryd.prog 48 #[.pointer (some ⟨g, 0, none⟩), .string v] w fun e w' => ∃ k : Nat, e = .returned (.bool (hd v (a.data.toList.drop pos))) ∧ Lx w0 w' g a st (pos + opt v (a.data.toList.drop pos)) k ts := by
  have HN := Aside0.mk (next_calls w0 w g a st pos wd ts hx hp hq hT)
  have HB := Aside0.mk (fun W k ts (h : Lx w0 W g a st (pos + k) k ts) (hk : pos + k ≤ 100000) => back_calls w0 W g a st (pos + k) k ts h (by omega) hk)
  have HC := Aside0.mk (fun r W => has_calls v r W ha)
  have hl : (a.data.toList.drop pos).length = a.size - pos := by rw [List.length_drop]; rfl
  have HA := Aside0.mk ha
  clear hx hT ha
  go_enter Tryd.func48, Tryd.ntmps48
  go_upto_if 8 with (first | (go_at_call 34; refine HN.out.mono ?_; rintro e w2 ⟨r, k, hn, rfl, hx2⟩; have hkl := hn.le; rw [hl] at hkl; have HN2 := Aside0.mk hn; have HX2 := Aside0.mk hx2; clear hn hx2) | (go_at_call 51; refine (HC.out _ _).mono ?_; rintro e w3 ⟨rfl, hb3⟩; have HX3 := Aside0.mk (Lx.below HX2.out hb3); clear hb3))
  have F := hd_nx HA.out HN2.out
  by_cases hh : hd v (a.data.toList.drop pos) = true
  · have e1 : hasb v r = true := F.1.trans hh
    have hk := (F.2 hh).1
    have ho : opt v (a.data.toList.drop pos) = 1 := by unfold opt; rw [if_pos hh]
    have FF := Aside0.mk F
    clear F
    rw [e1]
    go_wp2
    go_ret
    refine ⟨k, ?_, ?_⟩
    · rw [hh]; rfl
    · rw [ho, ← hk]; exact HX3.out
  · have hh2 : hd v (a.data.toList.drop pos) = false := by simpa using hh
    have e1 : hasb v r = false := F.1.trans hh2
    have ho : opt v (a.data.toList.drop pos) = 0 := by unfold opt; rw [if_neg hh]
    have FF := Aside0.mk F
    clear F
    rw [e1]
    go_wp2_with (go_at_call 36; refine (HB.out _ _ _ HX3.out (by omega)).mono ?_; rintro e w3 ⟨rfl, hx4⟩; have HX4 := Aside0.mk hx4; clear hx4)
    go_ret
    refine ⟨k, ?_, ?_⟩
    · rw [hh2]; rfl
    · rw [ho]; have := HX4.out; rwa [Nat.add_sub_cancel] at this

end Go.Proofs.YthcafnmagidpiaaDoor.MFnVtTokensJoin

namespace Go.Proofs.YthcafnmagidpiaaDoor.MFnVtTokensJoin
open Go.RowKit Go.Proofs.YthcafnmagidpiaaDoorW.PrintWords Go.Proofs.YthcafnmagidpiaaDoorW.PrintLast Go.Proofs.YthcafnmagidpiaaDoorW.PrintMore
attribute [local go_sem] max2_int min2_int max_two min_two max_three min_three max_four min_four
set_option linter.unusedVariables false
set_option linter.unusedSimpArgs false

theorem info48x : (Tryd.prog.info? 48).map (fun i => (i.zero, i.size, i.bytes)) = some (some (.agg #[(.int .u8 0), (.string ⟨#[]⟩)]), 2, 24) := by kernel_rfl
theorem Lx.push {w0 w1 : World} {g : Nat} {a : ByteArray} {st pos wd : Nat} {A v1 : Value} {ts : List S48} (h1 : w0.heap.size ≤ g) (h2 : Below w0.heap.size w0 w1) (h3 : w1.heap[g]? = some (.cells #[.string a, .int .i64 (st : Int), .int .i64 (pos : Int), .int .i64 (wd : Int), A] 59 (0, 0))) (h4 : Kd.R k48 48 w1 w0.heap.size (fun _ => True) v1 ts) :
    Lx w0 (w1.setCell ⟨g, 4, none⟩ v1) g a st pos wd ts := by
  obtain ⟨q1, q2, q3⟩ := Lx.kp (i := 4) (v := v1) h1 h2 h3 h4
  exact ⟨h1, q1, v1, q2, q3⟩
set_option maxHeartbeats 16000000 in
theorem emit_calls (w0 w : World) (g : Nat) (a : ByteArray) (st pos wd : Nat) (ts : List S48) (t : Int) (hx : Lx w0 w g a st pos wd ts) (hs : st ≤ pos) (hp : pos ≤ a.size) (hq : a.size ≤ 100000) (hn : ts.length ≤ 200000) :
    Calls Tryd.prog 35 #[.pointer (some ⟨g, 0, none⟩), .int .u8 t] w fun e w' => e = .returned (.tuple #[]) ∧ Lx w0 w' g a pos pos wd (ts ++ [⟨t, a.extract st pos⟩]) := by
  obtain ⟨h1, h2, A0, h3, h4⟩ := hx
  obtain ⟨A1, cA, eA⟩ := Kd.R_slice h4
  subst eA
  have c0 : w.cell? ⟨g, 0, none⟩ = some (.string a) := (blk_cell h3 0).trans rfl
  have c1 : w.cell? ⟨g, 1, none⟩ = some (.int .i64 (st : Int)) := (blk_cell h3 1).trans rfl
  have c2 : w.cell? ⟨g, 2, none⟩ = some (.int .i64 (pos : Int)) := (blk_cell h3 2).trans rfl
  have c4 : w.cell? ⟨g, 4, none⟩ = some (.slice A1 ts.length cA) := (blk_cell h3 4).trans rfl
  have c4a := fun o : Obj => pw_cell_below (below_drew1 (below_alloc (Below.refl _ _) o)) c4
  have H2 := Aside0.mk h2
  have H3 := Aside0.mk h3
  have H4 := Aside0.mk h4
  have HS := Aside0.mk h2.size
  have HNE := Aside0.mk (Kd.R_ne h4 h3 (by decide))
  have HN := Aside0.mk hn
  clear h2 h3 h4 hn
  go_enter Tryd.func35, Tryd.ntmps35
  go_upto_region 0 with (fail)
  go_region_law
    ((refine Kd.R_append_step k48 (w0 := w0) (W := w.drew) w0.heap.size (by rfl) (.tmp 8) (.tmp 24) 44 48 (.agg #[(.int .u8 0), (.string ⟨#[]⟩)]) 24 rfl Tryd.underlying44 info48x rfl (by decide) (by omega) (.slice A1 ts.length cA) ts ⟨t, a.extract st pos⟩ [.int .u8 t, .string (a.extract st pos)] (fun _ => True) (fun _ => False) rfl rfl ?aP (fun _ hk => hk.elim) (fun _ _ => trivial) ?aO ?aB ?aS ?aL ?_; (case aP => exact k48_mkM _ _ _ ⟨t, a.extract st pos⟩); (case aO => first | exact H4.out | exact Kd.R_drewN H4.out _ | exact Kd.R_drew H4.out); (case aB => first | exact H2.out | exact pw_below_drewN H2.out _ | exact below_drew1 H2.out); (case aS => exact HS.out); (case aL => have := HN.out; omega); intro v1 w1 ho hb hg hat; obtain ⟨Av, cv, ev⟩ := Kd.R_slice ho; (rw [List.length_append, List.length_singleton] at ev); subst ev; have g3 := Aside0.mk (blk_grown (by exact H3.out) hg HNE.out); have c2' : w1.cell? ⟨g, 2, none⟩ = some (.int .i64 (pos : Int)) := (blk_cell g3.out 2).trans rfl; have c4' : w1.cell? ⟨g, 4, none⟩ = some (.slice A1 ts.length cA) := (blk_cell g3.out 4).trans rfl; have c0' : w1.cell? ⟨g, 0, none⟩ = some (.string a) := (blk_cell g3.out 0).trans rfl; have c1' : w1.cell? ⟨g, 1, none⟩ = some (.int .i64 (st : Int)) := (blk_cell g3.out 1).trans rfl; have f4' : w1.frozen? ⟨g, 4, none⟩ = false := blk_frozen g3.out 4; have f1' : w1.frozen? ⟨g, 1, none⟩ = false := blk_frozen g3.out 1; have HO := Aside0.mk ho; have HB := Aside0.mk hb; clear ho hb hg hat))
  all_goals
    go_wp2
    first | go_end0 | ((try simp only [Exit.inBlock, Exit.then]); refine bodyPost_ret (results_none rfl _ _ _) rfl ?_)
    exact ⟨rfl, by repeat (first | exact Lx.push h1 HB.out g3.out HO.out | apply Lx.drewN | apply Lx.drew | apply Lx.set1)⟩
set_option maxHeartbeats 1000000 in
theorem errf_calls (w0 w : World) (g : Nat) (a : ByteArray) (st pos wd : Nat) (ts : List S48) (f : ByteArray) (v : Value) (hx : Lx w0 w g a st pos wd ts) (hn : ts.length ≤ 200000) :
    Calls Tryd.prog 47 #[.pointer (some ⟨g, 0, none⟩), .string f, v] w fun e w' => e = .returned .nilFunc ∧ Lx w0 w' g a st pos wd (ts ++ [⟨1, f⟩]) := by
  obtain ⟨h1, h2, A0, h3, h4⟩ := hx
  obtain ⟨A1, cA, eA⟩ := Kd.R_slice h4
  subst eA
  have c4 : w.cell? ⟨g, 4, none⟩ = some (.slice A1 ts.length cA) := (blk_cell h3 4).trans rfl
  have H2 := Aside0.mk h2
  have H3 := Aside0.mk h3
  have H4 := Aside0.mk h4
  have HS := Aside0.mk h2.size
  have HNE := Aside0.mk (Kd.R_ne h4 h3 (by decide))
  have HN := Aside0.mk hn
  clear h2 h3 h4 hn
  go_enter Tryd.func47, Tryd.ntmps47
  go_wp2_with ((with_reducible refine gate_builtin (b := .append) (xs := #[.tmp 11, .tmp 14]) rfl ?_); at_builtin; refine Kd.R_append k48 (w0 := w0) w0.heap.size rfl (.tmp 11) (.tmp 14) 44 48 (.agg #[(.int .u8 0), (.string ⟨#[]⟩)]) 24 rfl Tryd.underlying44 info48x rfl (by decide) (by omega) (.slice A1 ts.length cA) ts ⟨1, f⟩ [.int .u8 1, .string f] (fun _ => True) (fun _ => False) rfl rfl ?aP (fun _ hk => hk.elim) (fun _ _ => trivial) H4.out H2.out HS.out ?aL ?_; (case aP => exact k48_mkM _ _ _ ⟨1, f⟩); (case aL => have := HN.out; omega); intro v1 w1 ho hb hg hat; obtain ⟨Av, cv, ev⟩ := Kd.R_slice ho; (rw [List.length_append, List.length_singleton] at ev); subst ev; have g3 := Aside0.mk (blk_grown (by exact H3.out) hg HNE.out); have c4' : w1.cell? ⟨g, 4, none⟩ = some (.slice A1 ts.length cA) := (blk_cell g3.out 4).trans rfl; have f4' : w1.frozen? ⟨g, 4, none⟩ = false := blk_frozen g3.out 4; have HO := Aside0.mk ho; have HB := Aside0.mk hb; clear ho hb hg hat)
  go_ret
  exact ⟨rfl, by repeat (first | exact Lx.push h1 HB.out g3.out HO.out | apply Lx.drewN | apply Lx.drew)⟩

end Go.Proofs.YthcafnmagidpiaaDoor.MFnVtTokensJoin

namespace Go.Proofs.YthcafnmagidpiaaDoor.MFnVtTokensJoin
open Go.RowKit Go.Proofs.YthcafnmagidpiaaDoorW.PrintWords Go.Proofs.YthcafnmagidpiaaDoorW.PrintLast Go.Proofs.YthcafnmagidpiaaDoorW.PrintMore
attribute [local go_sem] max2_int min2_int max_two min_two max_three min_three max_four min_four
set_option linter.unusedVariables false
set_option linter.unusedSimpArgs false


/-! ### strings -/
/-- How many bytes there are up to a string's second mark, it too. -/
def quo (q : UInt8) : List UInt8 → Option Nat
  | [] => none
  | c :: r => if c = q then some 1 else if c = 92 then (match r with
    | [] => none
    | _ :: r2 => (quo q r2).map (· + 2)) else (quo q r).map (· + 1)
theorem quo_esc {q : UInt8} (h : q ≠ 92) (t : List UInt8) : quo q (92 :: t) = match t with
    | [] => none
    | _ :: r2 => (quo q r2).map (· + 2) := by
  rw [quo.eq_def]
  simp only [if_neg (Ne.symm h), if_true]
theorem quo_ne {q c : UInt8} (h1 : c ≠ q) (h2 : c ≠ 92) (t : List UInt8) : quo q (c :: t) = (quo q t).map (· + 1) := by
  rw [quo.eq_def]
  simp only [if_neg h1, if_neg h2]
theorem quo_eq (q : UInt8) (t : List UInt8) : quo q (q :: t) = some 1 := by
  rw [quo.eq_def]
  simp only [if_true]
theorem quo_hi {q : UInt8} (hq : q.toNat = 34 ∨ q.toNat = 39) : ∀ (k : Nat) (l : List UInt8), k ≤ l.length → (∀ x ∈ l.take k, 128 ≤ x.toNat) → quo q l = (quo q (l.drop k)).map (· + k)
  | 0, l, _, _ => by simp
  | k + 1, [], h, _ => by simp at h
  | k + 1, c :: r, h, ha => by
    have hc : 128 ≤ c.toNat := ha c (by simp)
    have h1 : c ≠ q := fun e => by subst e; omega
    have h2 : c ≠ 92 := fun e => by subst e; simp at hc
    rw [List.drop_succ_cons]
    rw [quo_ne h1 h2, quo_hi hq k r (by simpa using h) (fun x hx => ha x (by rw [List.take_succ_cons]; exact List.mem_cons_of_mem _ hx)), Option.map_map]
    congr 1
theorem drop_tail {l t : List UInt8} {c : UInt8} {p : Nat} (h : l.drop p = c :: t) : l.drop (p + 1) = t := by
  rw [← List.drop_drop, h]
  rfl
theorem nx_asc {l t : List UInt8} {c : UInt8} {r : Int} {k : Nat} (h : Nx l r k) (hl : l = c :: t) (hc : c.toNat < 128) : r = (c.toNat : Int) ∧ k = 1 := by
  rcases h with ⟨e1, _⟩ | ⟨c1, t1, e1, _, h1, h2⟩ | ⟨c1, t1, e1, h1, _⟩
  · rw [hl] at e1; cases e1
  · rw [hl] at e1; cases e1; exact ⟨h1, h2⟩
  · rw [hl] at e1; cases e1; omega
def StrPost (w0 : World) (g : Nat) (a : ByteArray) (st pos : Nat) (ts : List S48) (t : Int) (msg : ByteArray) (o : Option Nat) (e : Ending) (w' : World) : Prop :=
  match o with
  | none => e = .returned .nilFunc ∧ ∃ p k, Lx w0 w' g a st p k (ts ++ [⟨1, msg⟩])
  | some n => e = .returned (.func (.func 32) #[] #[]) ∧ ∃ k, Lx w0 w' g a (pos + 1 + n) (pos + 1 + n) k (ts ++ [⟨t, a.extract st (pos + 1 + n)⟩])

set_option maxHeartbeats 4000000 in
set_option maxRecDepth 100000 in
theorem str_calls (w0 w : World) (g : Nat) (a : ByteArray) (st pos wd : Nat) (ts : List S48) (q : UInt8) (l : List UInt8) (hx : Lx w0 w g a st pos wd ts) (hs : st ≤ pos) (hq1 : q = 34 ∨ q = 39) (hl : a.data.toList.drop pos = q :: l) (hq : a.size ≤ 100000) (hn : ts.length ≤ 100000) (hT : Lib.Utf8Tabs 0 1 w0) :
    Calls Tryd.prog 37 #[.pointer (some ⟨g, 0, none⟩)] w (StrPost w0 g a st pos ts 3 ⟨#[117, 110, 116, 101, 114, 109, 105, 110, 97, 116, 101, 100, 32, 115, 116, 114, 105, 110, 103]⟩ (quo q l)) := by
  have hlen : (a.data.toList.drop pos).length = a.size - pos := by rw [List.length_drop]; rfl
  have hlen2 : l.length + 1 = a.size - pos := by rw [← hlen, hl]; rfl
  have HN := Aside0.mk (fun W p k (h : Lx w0 W g a st p k ts) (hp : p ≤ a.size) => next_calls w0 W g a st p k ts h hp hq hT)
  have HE := Aside0.mk (fun W f v p k (h : Lx w0 W g a st p k ts) => errf_calls w0 W g a st p k ts f v h (by omega))
  have HM := Aside0.mk (fun W p k (h : Lx w0 W g a st p k ts) (h1 : st ≤ p) (h2 : p ≤ a.size) => emit_calls w0 W g a st p k ts 3 h h1 h2 hq (by omega))
  have HX := Aside0.mk hx
  have hq0 : q.toNat = 34 ∨ q.toNat = 39 := by rcases hq1 with rfl | rfl <;> decide
  have hq92 : q ≠ 92 := by rcases hq1 with rfl | rfl <;> decide
  have HQ92 := Aside0.mk hq92
  have HL := Aside0.mk hl
  clear hx hT hq1 hn
  go_enter Tryd.func37, Tryd.ntmps37
  go_wp2
  go_step3
  go_wp2_with (go_at_call 34; refine (HN.out _ _ _ HX.out (by omega)).mono ?_; rintro e w2 ⟨r, k, hn, rfl, hx2⟩; (have hn2 := nx_asc hn HL.out (by omega)); obtain ⟨rfl, rfl⟩ := hn2; have HX2 := Aside0.mk hx2; clear hn hx2)
  go_step3
  go_wp2
  go_loopg [] (a.size - (pos + 1)) (fun kq w' => ∃ p k : Nat, pos + 1 ≤ p ∧ p ≤ a.size ∧ Aside0 (kq = a.size - p ∧ Lx w0 w' g a st p k ts ∧ quo q l = (quo q (a.data.toList.drop p)).map (· + (p - pos - 1))))
  case atStart =>
    refine ⟨pos + 1, 1, Nat.le_refl _, by omega, ⟨rfl, HX2.out, ?_⟩⟩
    rw [drop_tail HL.out]
    simp
  case round =>
    clear HX HX2
    obtain ⟨p, k0, hp1, hp2, HI⟩ := hrel
    have hlp : (a.data.toList.drop p).length = a.size - p := by rw [List.length_drop]; rfl
    have HLP := Aside0.mk hlp
    clear hlp
    go_upto_region 3 with (go_at_call 34; refine (HN.out _ _ _ HI.out.2.1 (by omega)).mono ?_; rintro e w3 ⟨r, k, hn, rfl, hx3⟩; have HX3 := Aside0.mk hx3; have hkl := Nat.le_trans hn.le (Nat.le_of_eq HLP.out); have HNX := Aside0.mk hn; clear hn hx3)
    rcases HNX.out with ⟨e1, rfl, rfl⟩ | ⟨c, t, e1, hc, rfl, rfl⟩ | ⟨c, t, e1, hc, hr, hk1, hk2, hall⟩
    · -- the end
      have HE1 := Aside0.mk e1
      clear e1
      go_wp2_with (go_at_call 47; refine (HE.out _ _ _ _ _ HX3.out).mono ?_; rintro e w4 ⟨rfl, hx4⟩; have HX4 := Aside0.mk hx4; clear hx4)
      rw [Exit.noGoto_ret]
      go_ret
      have hQ : quo q l = none := by rw [HI.out.2.2, HE1.out]; rfl
      rw [hQ]
      exact ⟨rfl, _, _, HX4.out⟩
    · have HE1 := Aside0.mk e1
      have HT1 := Aside0.mk (drop_tail e1)
      clear e1
      by_cases h92 : c = 92
      · subst h92
        have e92 : (((92 : UInt8).toNat : Int)) = 92 := rfl
        rw [e92]
        clear hc
        go_upto_region 7 with (go_at_call 34; refine (HN.out _ _ _ HX3.out (by omega)).mono ?_; rintro e w4 ⟨r2, k2, hn2, rfl, hx4⟩; have HX4 := Aside0.mk hx4; have HNY := Aside0.mk hn2; clear hn2 hx4)
        rcases HNY.out with ⟨e2, rfl, rfl⟩ | ⟨d, t2, e2, hd, rfl, rfl⟩ | ⟨d, t2, e2, hd, hr2, hk1, hk2, hall⟩
        · have HE2 := Aside0.mk e2
          clear e2
          go_wp2_with (go_at_call 47; refine (HE.out _ _ _ _ _ HX4.out).mono ?_; rintro e w5 ⟨rfl, hx5⟩; have HX5 := Aside0.mk hx5; clear hx5)
          rw [Exit.noGoto_ret]
          go_ret
          have hQ : quo q l = none := by
            rw [HI.out.2.2, HE1.out]
            have : t = [] := by rw [← HT1.out]; exact HE2.out
            subst this
            rw [quo_esc HQ92.out]
            rfl
          rw [hQ]
          exact ⟨rfl, _, _, HX5.out⟩
        · have HE2 := Aside0.mk e2
          have b1 : ((d.toNat : Int) != -1) = true := bne_iff_ne.2 (by omega)
          have hsz : p + 2 ≤ a.size := by
            have := congrArg List.length HE2.out
            rw [List.length_drop] at this
            simp at this
            have h3 : a.data.toList.length = a.size := rfl
            omega
          clear e2
          go_wp2
          go_roundg (a.size - (p + 1 + 1))
          case measure => have := HI.out.1; omega
          case rel =>
            refine ⟨p + 1 + 1, 1, by omega, by omega, ⟨rfl, HX4.out, ?_⟩⟩
            rw [HI.out.2.2, HE1.out, quo_esc HQ92.out]
            have h1 : t = d :: t2 := by rw [← HT1.out]; exact HE2.out
            rw [h1, drop_tail HE2.out]
            show ((quo q t2).map (· + 2)).map _ = _
            rw [Option.map_map]
            congr 1
            funext x
            simp only [Function.comp]
            omega
        · have HE2 := Aside0.mk e2
          have b1 : (r2 != -1) = true := bne_iff_ne.2 (by omega)
          have hsz : p + 1 + k2 ≤ a.size := by
            have h2 := hk2
            rw [List.length_drop] at h2
            have h3 : a.data.toList.length = a.size := rfl
            omega
          have HALL := Aside0.mk hall
          clear e2 hall
          go_wp2
          go_roundg (a.size - (p + 1 + k2))
          case measure => have := HI.out.1; omega
          case rel =>
            refine ⟨p + 1 + k2, k2, by omega, by omega, ⟨rfl, HX4.out, ?_⟩⟩
            rw [HI.out.2.2, HE1.out, quo_esc HQ92.out]
            have h1 : t = d :: t2 := by rw [← HT1.out]; exact HE2.out
            rw [h1]
            show ((quo q t2).map (· + 2)).map _ = _
            have h2 : quo q t2 = (quo q (t2.drop (k2 - 1))).map (· + (k2 - 1)) := quo_hi hq0 (k2 - 1) t2 (by
              have := congrArg List.length HE2.out
              rw [List.length_cons] at this
              omega) (fun x hx => HALL.out x (by
                rw [HE2.out, show k2 = (k2 - 1) + 1 by omega, List.take_succ_cons]
                exact List.mem_cons_of_mem _ hx))
            have h3 : t2.drop (k2 - 1) = a.data.toList.drop (p + 1 + k2) := by
              rw [← List.drop_drop, HE2.out, show k2 = (k2 - 1) + 1 by omega, List.drop_succ_cons]
              rfl
            rw [h2, h3, Option.map_map, Option.map_map]
            congr 1
            funext x
            simp only [Function.comp]
            omega
      · have n92 : ((c.toNat : Int) == 92) = false := beq_eq_false_iff_ne.2 (fun h => h92 (UInt8.toNat_inj.mp (show c.toNat = 92 from by omega)))
        have nm1 : ((c.toNat : Int) == -1) = false := beq_eq_false_iff_ne.2 (by omega)
        have hsz : p + 1 ≤ a.size := by
          have := congrArg List.length HE1.out
          rw [List.length_drop] at this
          simp at this
          have h3 : a.data.toList.length = a.size := rfl
          omega
        by_cases hcq : c = q
        · have bq : ((c.toNat : Int) == (q.toNat : Int)) = true := by rw [hcq]; simp
          go_wp2_with (go_at_call 35; refine (HM.out _ _ _ HX3.out (by omega) (by omega)).mono ?_; rintro e w4 ⟨rfl, hx4⟩; have HX4 := Aside0.mk hx4; clear hx4)
          rw [Exit.noGoto_ret]
          go_ret
          have hQ : quo q l = some (p - pos) := by
            rw [HI.out.2.2, HE1.out, hcq]
            rw [quo_eq, Option.map_some]
            congr 1
            omega
          rw [hQ]
          have h5 : pos + 1 + (p - pos) = p + 1 := by omega
          refine ⟨rfl, 1, ?_⟩
          rw [h5]
          exact HX4.out
        · have bq : ((c.toNat : Int) == (q.toNat : Int)) = false := beq_eq_false_iff_ne.2 (fun h => hcq (UInt8.toNat_inj.mp (by exact_mod_cast h)))
          go_wp2
          go_roundg (a.size - (p + 1))
          case measure => have := HI.out.1; omega
          case rel =>
            refine ⟨p + 1, 1, by omega, by omega, ⟨rfl, HX3.out, ?_⟩⟩
            rw [HI.out.2.2, HE1.out, HT1.out]
            rw [quo_ne hcq h92, Option.map_map]
            congr 1
            funext x
            simp only [Function.comp]
            omega
    · have HE1 := Aside0.mk e1
      have n92 : (r == 92) = false := beq_eq_false_iff_ne.2 (by omega)
      have nm1 : (r == -1) = false := beq_eq_false_iff_ne.2 (by omega)
      have bq : (r == (q.toNat : Int)) = false := beq_eq_false_iff_ne.2 (by omega)
      have hsz : p + k ≤ a.size := by omega
      have HALL := Aside0.mk hall
      clear e1 hall
      go_wp2
      go_roundg (a.size - (p + k))
      case measure => have := HI.out.1; omega
      case rel =>
        refine ⟨p + k, k, by omega, by omega, ⟨rfl, HX3.out, ?_⟩⟩
        rw [HI.out.2.2, quo_hi hq0 k _ hk2 HALL.out, List.drop_drop, Option.map_map]
        congr 1
        funext x
        simp only [Function.comp]
        omega

set_option maxHeartbeats 4000000 in
set_option maxRecDepth 100000 in
theorem bst_calls (w0 w : World) (g : Nat) (a : ByteArray) (st pos wd : Nat) (ts : List S48) (q : UInt8) (l : List UInt8) (hx : Lx w0 w g a st pos wd ts) (hs : st ≤ pos) (hq1 : q = 34 ∨ q = 39) (hl : a.data.toList.drop pos = q :: l) (hq : a.size ≤ 100000) (hn : ts.length ≤ 100000) (hT : Lib.Utf8Tabs 0 1 w0) :
    Calls Tryd.prog 44 #[.pointer (some ⟨g, 0, none⟩)] w (StrPost w0 g a st pos ts 14 ⟨#[117, 110, 116, 101, 114, 109, 105, 110, 97, 116, 101, 100, 32, 98, 121, 116, 101, 115, 116, 114, 105, 110, 103]⟩ (quo q l)) := by
  have hlen : (a.data.toList.drop pos).length = a.size - pos := by rw [List.length_drop]; rfl
  have hlen2 : l.length + 1 = a.size - pos := by rw [← hlen, hl]; rfl
  have HN := Aside0.mk (fun W p k (h : Lx w0 W g a st p k ts) (hp : p ≤ a.size) => next_calls w0 W g a st p k ts h hp hq hT)
  have HE := Aside0.mk (fun W f v p k (h : Lx w0 W g a st p k ts) => errf_calls w0 W g a st p k ts f v h (by omega))
  have HM := Aside0.mk (fun W p k (h : Lx w0 W g a st p k ts) (h1 : st ≤ p) (h2 : p ≤ a.size) => emit_calls w0 W g a st p k ts 14 h h1 h2 hq (by omega))
  have HX := Aside0.mk hx
  have hq0 : q.toNat = 34 ∨ q.toNat = 39 := by rcases hq1 with rfl | rfl <;> decide
  have hq92 : q ≠ 92 := by rcases hq1 with rfl | rfl <;> decide
  have HQ92 := Aside0.mk hq92
  have HL := Aside0.mk hl
  clear hx hT hq1 hn
  go_enter Tryd.func44, Tryd.ntmps44
  go_wp2
  go_step3
  go_wp2_with (go_at_call 34; refine (HN.out _ _ _ HX.out (by omega)).mono ?_; rintro e w2 ⟨r, k, hn, rfl, hx2⟩; (have hn2 := nx_asc hn HL.out (by omega)); obtain ⟨rfl, rfl⟩ := hn2; have HX2 := Aside0.mk hx2; clear hn hx2)
  go_step3
  go_wp2
  go_loopg [] (a.size - (pos + 1)) (fun kq w' => ∃ p k : Nat, pos + 1 ≤ p ∧ p ≤ a.size ∧ Aside0 (kq = a.size - p ∧ Lx w0 w' g a st p k ts ∧ quo q l = (quo q (a.data.toList.drop p)).map (· + (p - pos - 1))))
  case atStart =>
    refine ⟨pos + 1, 1, Nat.le_refl _, by omega, ⟨rfl, HX2.out, ?_⟩⟩
    rw [drop_tail HL.out]
    simp
  case round =>
    clear HX HX2
    obtain ⟨p, k0, hp1, hp2, HI⟩ := hrel
    have hlp : (a.data.toList.drop p).length = a.size - p := by rw [List.length_drop]; rfl
    have HLP := Aside0.mk hlp
    clear hlp
    go_upto_region 3 with (go_at_call 34; refine (HN.out _ _ _ HI.out.2.1 (by omega)).mono ?_; rintro e w3 ⟨r, k, hn, rfl, hx3⟩; have HX3 := Aside0.mk hx3; have hkl := Nat.le_trans hn.le (Nat.le_of_eq HLP.out); have HNX := Aside0.mk hn; clear hn hx3)
    rcases HNX.out with ⟨e1, rfl, rfl⟩ | ⟨c, t, e1, hc, rfl, rfl⟩ | ⟨c, t, e1, hc, hr, hk1, hk2, hall⟩
    · -- the end
      have HE1 := Aside0.mk e1
      clear e1
      go_wp2_with (go_at_call 47; refine (HE.out _ _ _ _ _ HX3.out).mono ?_; rintro e w4 ⟨rfl, hx4⟩; have HX4 := Aside0.mk hx4; clear hx4)
      rw [Exit.noGoto_ret]
      go_ret
      have hQ : quo q l = none := by rw [HI.out.2.2, HE1.out]; rfl
      rw [hQ]
      exact ⟨rfl, _, _, HX4.out⟩
    · have HE1 := Aside0.mk e1
      have HT1 := Aside0.mk (drop_tail e1)
      clear e1
      by_cases h92 : c = 92
      · subst h92
        have e92 : (((92 : UInt8).toNat : Int)) = 92 := rfl
        rw [e92]
        clear hc
        go_upto_region 7 with (go_at_call 34; refine (HN.out _ _ _ HX3.out (by omega)).mono ?_; rintro e w4 ⟨r2, k2, hn2, rfl, hx4⟩; have HX4 := Aside0.mk hx4; have HNY := Aside0.mk hn2; clear hn2 hx4)
        rcases HNY.out with ⟨e2, rfl, rfl⟩ | ⟨d, t2, e2, hd, rfl, rfl⟩ | ⟨d, t2, e2, hd, hr2, hk1, hk2, hall⟩
        · have HE2 := Aside0.mk e2
          clear e2
          go_wp2_with (go_at_call 47; refine (HE.out _ _ _ _ _ HX4.out).mono ?_; rintro e w5 ⟨rfl, hx5⟩; have HX5 := Aside0.mk hx5; clear hx5)
          rw [Exit.noGoto_ret]
          go_ret
          have hQ : quo q l = none := by
            rw [HI.out.2.2, HE1.out]
            have : t = [] := by rw [← HT1.out]; exact HE2.out
            subst this
            rw [quo_esc HQ92.out]
            rfl
          rw [hQ]
          exact ⟨rfl, _, _, HX5.out⟩
        · have HE2 := Aside0.mk e2
          have b1 : ((d.toNat : Int) != -1) = true := bne_iff_ne.2 (by omega)
          have hsz : p + 2 ≤ a.size := by
            have := congrArg List.length HE2.out
            rw [List.length_drop] at this
            simp at this
            have h3 : a.data.toList.length = a.size := rfl
            omega
          clear e2
          go_wp2
          go_roundg (a.size - (p + 1 + 1))
          case measure => have := HI.out.1; omega
          case rel =>
            refine ⟨p + 1 + 1, 1, by omega, by omega, ⟨rfl, HX4.out, ?_⟩⟩
            rw [HI.out.2.2, HE1.out, quo_esc HQ92.out]
            have h1 : t = d :: t2 := by rw [← HT1.out]; exact HE2.out
            rw [h1, drop_tail HE2.out]
            show ((quo q t2).map (· + 2)).map _ = _
            rw [Option.map_map]
            congr 1
            funext x
            simp only [Function.comp]
            omega
        · have HE2 := Aside0.mk e2
          have b1 : (r2 != -1) = true := bne_iff_ne.2 (by omega)
          have hsz : p + 1 + k2 ≤ a.size := by
            have h2 := hk2
            rw [List.length_drop] at h2
            have h3 : a.data.toList.length = a.size := rfl
            omega
          have HALL := Aside0.mk hall
          clear e2 hall
          go_wp2
          go_roundg (a.size - (p + 1 + k2))
          case measure => have := HI.out.1; omega
          case rel =>
            refine ⟨p + 1 + k2, k2, by omega, by omega, ⟨rfl, HX4.out, ?_⟩⟩
            rw [HI.out.2.2, HE1.out, quo_esc HQ92.out]
            have h1 : t = d :: t2 := by rw [← HT1.out]; exact HE2.out
            rw [h1]
            show ((quo q t2).map (· + 2)).map _ = _
            have h2 : quo q t2 = (quo q (t2.drop (k2 - 1))).map (· + (k2 - 1)) := quo_hi hq0 (k2 - 1) t2 (by
              have := congrArg List.length HE2.out
              rw [List.length_cons] at this
              omega) (fun x hx => HALL.out x (by
                rw [HE2.out, show k2 = (k2 - 1) + 1 by omega, List.take_succ_cons]
                exact List.mem_cons_of_mem _ hx))
            have h3 : t2.drop (k2 - 1) = a.data.toList.drop (p + 1 + k2) := by
              rw [← List.drop_drop, HE2.out, show k2 = (k2 - 1) + 1 by omega, List.drop_succ_cons]
              rfl
            rw [h2, h3, Option.map_map, Option.map_map]
            congr 1
            funext x
            simp only [Function.comp]
            omega
      · have n92 : ((c.toNat : Int) == 92) = false := beq_eq_false_iff_ne.2 (fun h => h92 (UInt8.toNat_inj.mp (show c.toNat = 92 from by omega)))
        have nm1 : ((c.toNat : Int) == -1) = false := beq_eq_false_iff_ne.2 (by omega)
        have hsz : p + 1 ≤ a.size := by
          have := congrArg List.length HE1.out
          rw [List.length_drop] at this
          simp at this
          have h3 : a.data.toList.length = a.size := rfl
          omega
        by_cases hcq : c = q
        · have bq : ((c.toNat : Int) == (q.toNat : Int)) = true := by rw [hcq]; simp
          go_wp2_with (go_at_call 35; refine (HM.out _ _ _ HX3.out (by omega) (by omega)).mono ?_; rintro e w4 ⟨rfl, hx4⟩; have HX4 := Aside0.mk hx4; clear hx4)
          rw [Exit.noGoto_ret]
          go_ret
          have hQ : quo q l = some (p - pos) := by
            rw [HI.out.2.2, HE1.out, hcq]
            rw [quo_eq, Option.map_some]
            congr 1
            omega
          rw [hQ]
          have h5 : pos + 1 + (p - pos) = p + 1 := by omega
          refine ⟨rfl, 1, ?_⟩
          rw [h5]
          exact HX4.out
        · have bq : ((c.toNat : Int) == (q.toNat : Int)) = false := beq_eq_false_iff_ne.2 (fun h => hcq (UInt8.toNat_inj.mp (by exact_mod_cast h)))
          go_wp2
          go_roundg (a.size - (p + 1))
          case measure => have := HI.out.1; omega
          case rel =>
            refine ⟨p + 1, 1, by omega, by omega, ⟨rfl, HX3.out, ?_⟩⟩
            rw [HI.out.2.2, HE1.out, HT1.out]
            rw [quo_ne hcq h92, Option.map_map]
            congr 1
            funext x
            simp only [Function.comp]
            omega
    · have HE1 := Aside0.mk e1
      have n92 : (r == 92) = false := beq_eq_false_iff_ne.2 (by omega)
      have nm1 : (r == -1) = false := beq_eq_false_iff_ne.2 (by omega)
      have bq : (r == (q.toNat : Int)) = false := beq_eq_false_iff_ne.2 (by omega)
      have hsz : p + k ≤ a.size := by omega
      have HALL := Aside0.mk hall
      clear e1 hall
      go_wp2
      go_roundg (a.size - (p + k))
      case measure => have := HI.out.1; omega
      case rel =>
        refine ⟨p + k, k, by omega, by omega, ⟨rfl, HX3.out, ?_⟩⟩
        rw [HI.out.2.2, quo_hi hq0 k _ hk2 HALL.out, List.drop_drop, Option.map_map]
        congr 1
        funext x
        simp only [Function.comp]
        omega


end Go.Proofs.YthcafnmagidpiaaDoor.MFnVtTokensJoin
