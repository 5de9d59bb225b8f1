-- Written by a program of this session (myprint.py, out of the translation). Not trusted: Lean checks it.
import Derived.Test.YtodphfcneiodhaaDoorMFnWrFullx0
namespace Go.Proofs.YtodphfcneiodhaaDoor.MFnWrFull
open Go.RowKit Go.Proofs.YtodphfcneiodhaaDoorW.PrintWords Go.Proofs.YtodphfcneiodhaaDoorW.PrintLast Go.Proofs.YtodphfcneiodhaaDoorW.PrintMore
attribute [local go_sem] max2_int min2_int max_two min_two max_three min_three max_four min_four   -- for this text's walks alone
set_option linter.unusedVariables false
set_option linter.unusedSimpArgs false

/-! ### impl_WrFull: function 5 -/
-- GIVENTEXT
-- INFO 9
-- INFO 5
/-- The pieces one behind the other. -/
def cat (ps : List ByteArray) : List UInt8 := (ps.map (·.data.toList)).flatten
theorem cat_nil : cat [] = [] := rfl
theorem cat_cons (p : ByteArray) (ps : List ByteArray) : cat (p :: ps) = p.data.toList ++ cat ps := by simp [cat]
/-- What lies below base, and rows of texts, stay. -/
def Kq (base : Nat) (W w' : World) : Prop := Below base W w' ∧ ∀ (k : Nat) (cells : Array Value) (m : Nat × Nat), W.heap[k]? = some (Obj.cells cells 9 m) → w'.heap[k]? = W.heap[k]?
theorem Kq.refl (base : Nat) (W : World) : Kq base W W := ⟨Below.refl _ _, fun _ _ _ _ => rfl⟩
theorem Kq.trans {base : Nat} {a b c : World} (h : Kq base a b) (k : Kq base b c) : Kq base a c :=
  ⟨h.1.trans k.1, fun i cells m hi => (k.2 i cells m ((h.2 i cells m hi).trans hi)).trans (h.2 i cells m hi)⟩
theorem Kq.below {base : Nat} {W w' : World} (h : Below W.heap.size W w') (hb : base ≤ W.heap.size) : Kq base W w' :=
  ⟨h.mono hb, fun k _ _ hk => h.block k (Array.getElem?_eq_some_iff.1 hk).1⟩
theorem Kq.set {base g i t : Nat} {W : World} {cs : Array Value} {v : Value} (hg : W.heap[g]? = some (.cells cs t (0, 0))) (ht : t ≠ 9) (hb : base ≤ g) : Kq base W (W.setCell ⟨g, i, none⟩ v) :=
  ⟨(Below.refl _ _).setCell hb v, fun k cells m hk => Below.heap_setCell W _ v k (fun e => by
    have e' : k = g := e
    subst e'
    rw [hg] at hk
    injection hk with hk
    injection hk with _ hk _
    exact ht hk)⟩
theorem Kq.row {base g t : Nat} {W : World} {cs cs' : Array Value} (hg : W.heap[g]? = some (.cells cs t (0, 0))) (ht : t ≠ 9) (hb : base ≤ g) : Kq base W (W.setRow g cs') :=
  ⟨⟨rfl, rfl, rfl, by simp [World.setRow], fun k hk => setRow_other W g k cs' (by omega)⟩, fun k cells m hk => setRow_other W g k cs' (fun e => by
    subst e
    rw [hg] at hk
    injection hk with hk
    injection hk with _ hk _
    exact ht hk)⟩
/-- A slice of texts, read, whose row stays under Kq. -/
def Rd (base : Nat) (w : World) (v : Value) (ps : List ByteArray) : Prop :=
  ∃ (A : Option Addr) (c : Nat), v = .slice A ps.length c ∧ ps.length ≤ c ∧ Kd.C Kd.string w A ps.length ps ∧ ∀ ad, A = some ad → 0 < ps.length → ad.block < base ∨ ∃ cells m, w.heap[ad.block]? = some (Obj.cells cells 9 m)
theorem Rd.keep {base : Nat} {W w' : World} {v : Value} {ps : List ByteArray} (h : Rd base W v ps) (hk : Kq base W w') : Rd base w' v ps := by
  obtain ⟨A, c, rfl, hc, hC, hA⟩ := h
  have hblk : ∀ ad, A = some ad → 0 < ps.length → w'.heap[ad.block]? = W.heap[ad.block]? := by
    intro ad e hn
    rcases hA ad e hn with h | ⟨cells, m, h⟩
    · exact hk.1.block _ h
    · exact hk.2 _ _ _ h
  refine ⟨A, c, rfl, hc, ⟨hC.1, hC.2.1, fun hn => ?_⟩, fun ad e hn => ?_⟩
  · obtain ⟨ad, e, hcell⟩ := hC.2.2 hn
    refine ⟨ad, e, fun j p hj => ?_⟩
    obtain ⟨cs, h1, h2, h3⟩ := hcell j p hj
    refine ⟨cs, h1, h2, fun i u hu => ?_⟩
    have hb : w'.heap[(ad.add (j * Kd.string.sz + i)).block]? = W.heap[(ad.add (j * Kd.string.sz + i)).block]? := by rw [add_block]; exact hblk ad e hn
    rw [World.cell?_of_block hb]
    exact h3 i u hu
  · rcases hA ad e hn with h | ⟨cells, m, h⟩
    · exact .inl h
    · exact .inr ⟨cells, m, (hk.2 _ _ _ h).trans h⟩
/-- The reader's block: the pieces left, and a number. -/
def Rs (base g : Nat) (w : World) (ps : List ByteArray) : Prop := base ≤ g ∧ ∃ (v : Value) (z : Int), w.heap[g]? = some (.cells #[v, .int .i64 z] 37 (0, 0)) ∧ Rd base w v ps
/-- The two errors' variables. -/
def Gl (base : Nat) (w : World) (a0 a1 : Addr) : Prop := 1 < base ∧ w.cell? ⟨0, 0, none⟩ = some (.iface 44 (.pointer (some a0))) ∧ w.cell? ⟨1, 0, none⟩ = some (.iface 44 (.pointer (some a1)))
theorem Gl.below {base : Nat} {w w' : World} {a0 a1 : Addr} (h : Gl base w a0 a1) (hb : Below base w w') : Gl base w' a0 a1 :=
  ⟨h.1, by rw [World.cell?_of_block (hb.block 0 (by have := h.1; omega))]; exact h.2.1, by rw [World.cell?_of_block (hb.block 1 (by have := h.1; omega))]; exact h.2.2⟩
theorem info5x : (Tryd.prog.info? 5).map (fun i => (i.zero, i.size, i.bytes)) = some (some (.int .u8 0), 1, 1) := by kernel_rfl
theorem info9x : (Tryd.prog.info? 9).map (fun i => (i.zero, i.size, i.bytes)) = some (some (.string ⟨#[]⟩), 1, 16) := by kernel_rfl
/-- 'copy(dst, s)', s a text of any length. -/
theorem run_copy_cut {P : Program} (w : World) (dT sT ty elem : TypeId) (g o dLen dCap : Nat) (s : ByteArray) (cur : Array Value) (t : TypeId)
    (hu : P.underlying dT = some (.slice elem)) (hs : (P.info? elem).map (·.size) = some 1) (hg : w.heap[g]? = some (.cells cur t (0, 0))) (hfit : o + dLen ≤ cur.size) :
    (Builtin.copy_ #[dT, sT] ty #[.slice (some ⟨g, o, none⟩) dLen dCap, .string s]).run P w =
      .ok (goInt (Nat.min s.size dLen)) (w.setRow g (cur.toList.take o ++ Lib.byteCells (s.data.toList.take (Nat.min s.size dLen)) ++ cur.toList.drop (o + Nat.min s.size dLen)).toArray) := by
  have hm1 : Nat.min s.size dLen ≤ s.size := Nat.min_le_left _ _
  have hm2 : Nat.min s.size dLen ≤ dLen := Nat.min_le_right _ _
  generalize hm : Nat.min s.size dLen = m at *
  have hlen : (Lib.byteCells (s.data.toList.take m)).length = m := by rw [Lib.byteCells_length, List.length_take]; have : s.data.toList.length = s.size := rfl; omega
  have hst := run_storeCells_at P g o t (Lib.byteCells (s.data.toList.take m)) 0 cur w hg (by rw [hlen]; omega) (Lib.byteCells_one _)
  have htk : List.take m (List.map (fun b : UInt8 => Value.int IntKind.u8 (b.toNat : Int)) s.data.toList) = Lib.byteCells (s.data.toList.take m) := by
    rw [← List.map_take]
    rfl
  rw [hlen] at hst
  simp only [Nat.add_zero] at hst
  cases hq : P.info? elem with
  | none => simp [hq] at hs
  | some i =>
    simp [Builtin.copy_, run_underlying hu, Builtin.lenOf, Builtin.firstCells, sizeOf, typeInfo, hq, hm]
    rw [htk, hst]
    simp [Result.andThen]
theorem wpList_copy_cut {P : Program} (w : World) {ops : Array Oper} {rest : List Oper} {o : Oper} {a : Act} {Q : Exit → Act → World → Prop}
    (hgd : o.guard = none) (s x : Operand) (dT sT : TypeId) (hop : o.op = Op.call { callee := Callee.builtin Builtin.copy, args := #[s, x], argTypes := #[dT, sT] })
    (elem : TypeId) (g of dLen dCap : Nat) (p : ByteArray) (cur : Array Value) (t : TypeId) (hs : a.eval s = .slice (some ⟨g, of, none⟩) dLen dCap) (hx : a.eval x = .string p)
    (hu : P.underlying dT = some (.slice elem)) (hsz : (P.info? elem).map (·.size) = some 1) (hg : w.heap[g]? = some (.cells cur t (0, 0))) (hfit : of + dLen ≤ cur.size)
    (hK : wpList P ops Q rest (a.put o.dst (goInt (Nat.min p.size dLen))) (w.setRow g (cur.toList.take of ++ Lib.byteCells (p.data.toList.take (Nat.min p.size dLen)) ++ cur.toList.drop (of + Nat.min p.size dLen)).toArray)) :
    wpList P ops Q (o :: rest) a w := by
  refine wpList_plain hgd fun K hK' => ?_
  have hrun := run_copy_cut w dT sT o.type elem g of dLen dCap p cur t hu hsz hg hfit
  unfold Oper.wp execOp
  simp only [hop, resolve, invoke, builtin, Sem.run_bind, Sem.run_pure, Result.andThen_ok, List.map_toArray, List.map_cons, List.map_nil, hs, hx, hrun]
  exact hK' _ _ hK
theorem read_empty (w : World) (g b0 c : Nat) (o : Nat) : Calls Tryd.prog 25 #[.pointer (some ⟨g, 0, none⟩), .slice (some ⟨b0, o, none⟩) 0 c] w fun e w' => e = .returned (.tuple #[.int .i64 0, .nilIface]) ∧ w' = w := by
  go_enter Tryd.func25, Tryd.ntmps25
  go_wp2
  go_ret2
  simp
def ReadPost (base g b0 o n : Nat) (ps : List ByteArray) (cur : Array Value) (a0 : Addr) (W : World) (e : Ending) (w' : World) : Prop :=
  Kq base W w' ∧ ((cat ps = [] ∧ e = .returned (.tuple #[.int .i64 0, .iface 44 (.pointer (some a0))]) ∧ Rs base g w' [] ∧ w'.heap[b0]? = W.heap[b0]?) ∨
    (∃ (m : Nat) (ps' : List ByteArray), 0 < m ∧ m ≤ n ∧ m ≤ (cat ps).length ∧ cat ps' = (cat ps).drop m ∧ ps'.length ≤ ps.length ∧ e = .returned (.tuple #[.int .i64 (m : Int), .nilIface]) ∧ Rs base g w' ps' ∧
      w'.heap[b0]? = some (.cells (cur.toList.take o ++ Lib.byteCells ((cat ps).take m) ++ cur.toList.drop (o + m)).toArray 5 (0, 0))))
theorem rs_drop {base g c' : Nat} {z : Int} {wr : World} {ad : Addr} {p : ByteArray} {qs : List ByteArray} (hb : base ≤ g) (hg : wr.heap[g]? = some (.cells #[.slice (some ad) (qs.length + 1) c', .int .i64 z] 37 (0, 0))) (hc' : qs.length + 1 ≤ c')
    (hC : Kd.C Kd.string wr (some ad) (p :: qs).length (p :: qs)) (hA : ∀ a, some ad = some a → 0 < (p :: qs).length → a.block < base ∨ ∃ cells m, wr.heap[a.block]? = some (Obj.cells cells 9 m)) (ad2 : Addr) (h2 : ad2 = if c' = 1 then ad else ad.add 1) :
    Rs base g (wr.setCell ⟨g, 0, none⟩ (.slice (some ad2) qs.length (c' - 1))) qs ∧ Kq base wr (wr.setCell ⟨g, 0, none⟩ (.slice (some ad2) qs.length (c' - 1))) := by
  have hK : Kq base wr (wr.setCell ⟨g, 0, none⟩ (.slice (some ad2) qs.length (c' - 1))) := Kq.set hg (by decide) hb
  refine ⟨⟨hb, _, z, (heap_setCell_same wr g 0 _ 37 _ hg).trans rfl, ?_⟩, hK⟩
  have hd := Kd.C_drop (m := 1) (c := c') hC (by simp) (by simpa using hc')
  refine Rd.keep (W := wr) ⟨some ad2, c' - 1, rfl, by omega, ?_, ?_⟩ hK
  · subst h2
    by_cases h1 : c' = 1
    · rw [if_pos h1] at hd ⊢
      exact hd
    · rw [if_neg h1] at hd ⊢
      exact hd
  · intro a e hn
    obtain rfl := Option.some.inj e
    have : ad2.block = ad.block := by
      subst h2
      split
      · rfl
      · exact add_block _ _
    rw [this]
    exact hA ad rfl (by simp)
theorem copy_world {base b0 : Nat} {wr : World} {cur cs : Array Value} (hb : base ≤ b0) (hg : wr.heap[b0]? = some (.cells cur 5 (0, 0))) :
    ∃ wc, wc = wr.setRow b0 cs ∧ Kq base wr wc ∧ wc.heap[b0]? = some (.cells cs 5 (0, 0)) ∧ wc.heap.size = wr.heap.size ∧ ∀ k, k ≠ b0 → wc.heap[k]? = wr.heap[k]? :=
  ⟨_, rfl, Kq.row hg (by decide) hb, setRow_heap wr b0 cur cs 5 _ hg, by simp [World.setRow], fun k hk => setRow_other wr b0 k cs hk⟩
theorem built_R {W : World} {base b : Nat} {s : ByteArray} (h : W.heap[b]? = some (.cells #[.string s] 9 (0, 0))) (hb : base ≤ b) : Kd.R Kd.string 9 W base (fun _ => True) (.slice (some ⟨b, 0, none⟩) 1 1) [s] := by
  refine Kd.R_of_own (enc := Value.string) (h1 := fun _ => rfl) ⟨rfl, .inr ⟨b, 1, _, rfl, hb, h, Nat.le_refl _, by decide, rfl, rfl⟩⟩ (fun _ _ => trivial)
theorem tail_cut {base c' : Nat} {wc : World} {ad : Addr} {p : ByteArray} {qs : List ByteArray} (hc' : qs.length + 1 ≤ c') (h : Rd base wc (.slice (some ad) (qs.length + 1) c') (p :: qs)) (hl : qs.length ≤ 100) :
    ∃ ad2 c2, (∀ W : World, (Instr.slice 22 (.slice (some ad) (qs.length + 1) c') (some (.int .i64 1)) none none).run Tryd.prog W = .ok (.slice (some ad2) qs.length c2) W) ∧ Kd.C Kd.string wc (some ad2) qs.length qs := by
  obtain ⟨A', c'', he, _, hC, _⟩ := h
  injection he with e1 _ e2
  subst e1 e2
  have hd := Kd.C_drop (m := 1) (c := c') hC (by simp) (by simpa using hc')
  obtain ⟨i0, hi, hz0, hz1, hz2⟩ := info_parts info9x
  have hsl := cut_from 22 9 .i64 Tryd.underlying22 hi 1 hz1 (some ad) (qs.length + 1) c' 1 (by omega) (by omega)
  refine ⟨if c' = 1 then ad else ad.add 1, c' - 1, fun W => ?_, ?_⟩
  · rw [hsl W]
    by_cases h1 : c' = 1 <;> simp [h1]
  · by_cases h1 : c' = 1
    · rw [if_pos h1] at hd ⊢
      exact hd
    · rw [if_neg h1] at hd ⊢
      exact hd
theorem read_fin {base g b0 o n m cv : Nat} {ps qs : List ByteArray} {p : ByteArray} {cur : Array Value} {a0 : Addr} {w wr wc w1 : World} {Av : Option Addr} {V : Value} {z zz : Int} (HP : cat (p :: qs) = cat ps) (HQ : (p :: qs).length ≤ ps.length) (hbase : base ≤ g) (hm1 : m ≤ p.size) (hm2 : m ≤ n) (hm3 : 0 < m)
    (hK : Kq base w wr) (hg : wr.heap[g]? = some (.cells #[V, .int .i64 z] 37 (0, 0))) (hkc : Kq base wr wc) (hbc : wc.heap[b0]? = some (.cells (cur.toList.take o ++ Lib.byteCells (p.data.toList.take m) ++ cur.toList.drop (o + m)).toArray 5 (0, 0)))
    (hoc : ∀ k, k ≠ b0 → wc.heap[k]? = wr.heap[k]?) (hgb : b0 ≠ g) (hs : base ≤ wc.heap.size) (hR : Kd.R Kd.string 9 w1 wc.heap.size (fun _ => True) (.slice Av (qs.length + 1) cv) ([p.extract m p.size] ++ qs)) (hB : Below wc.heap.size wc w1) :
    ReadPost base g b0 o n ps cur a0 w (.returned (.tuple #[.int .i64 (m : Int), .nilIface])) ((w1.setCell ⟨g, 0, none⟩ (.slice Av (qs.length + 1) cv)).setCell ⟨g, 1, none⟩ (.int .i64 zz)) := by
  have hgc := (hoc g hgb.symm).trans hg
  have hg1 : w1.heap[g]? = some (.cells #[V, .int .i64 z] 37 (0, 0)) := (hB.block g (Array.getElem?_eq_some_iff.1 hgc).1).trans hgc
  have hg2 := heap_setCell_same w1 g 0 _ 37 (.slice Av (qs.length + 1) cv) hg1
  have hg3 := heap_setCell_same _ g 1 _ 37 (.int .i64 zz) hg2
  have k1 : Kq base w1 (w1.setCell ⟨g, 0, none⟩ (.slice Av (qs.length + 1) cv)) := Kq.set hg1 (by decide) hbase
  have k2 : Kq base (w1.setCell ⟨g, 0, none⟩ (.slice Av (qs.length + 1) cv)) ((w1.setCell ⟨g, 0, none⟩ (.slice Av (qs.length + 1) cv)).setCell ⟨g, 1, none⟩ (.int .i64 zz)) := Kq.set hg2 (by decide) hbase
  have hp2 : (p.extract m p.size).data.toList = p.data.toList.drop m := by
    rw [Lib.extract_data]
    show List.take (p.data.toList.length - m) _ = _
    rw [List.take_of_length_le (by simp)]
  have hl : p.data.toList.length = p.size := rfl
  refine ⟨((hK.trans hkc).trans (Kq.below hB hs)).trans (k1.trans k2), .inr ⟨m, p.extract m p.size :: qs, hm3, hm2, ?_, ?_, ?_, rfl, ⟨hbase, .slice Av (qs.length + 1) cv, zz, hg3.trans rfl, ?_⟩, ?_⟩⟩
  · rw [← HP, cat_cons, List.length_append]
    omega
  · rw [← HP, cat_cons, cat_cons, hp2, List.drop_append_of_le_length (by omega)]
  · simpa using HQ
  · refine Rd.keep (W := w1) ?_ (k1.trans k2)
    obtain ⟨e1, e2, e3⟩ := Kd.R_reads' hR
    refine ⟨Av, cv, rfl, by simpa using e2, e3, fun ad e _ => .inr ?_⟩
    subst e
    obtain ⟨cells, h⟩ := Kd.R_typed hR ad.block rfl
    exact ⟨cells, _, h⟩
  · rw [Below.heap_setCell _ _ _ _ hgb, Below.heap_setCell _ _ _ _ hgb, hB.block b0 (Array.getElem?_eq_some_iff.1 hbc).1, hbc, ← HP, cat_cons, List.take_append_of_le_length (by omega)]
set_option maxHeartbeats 2000000 in
set_option maxRecDepth 100000 in
theorem read_calls (base g b0 o n c : Nat) (ps : List ByteArray) (cur : Array Value) (a0 a1 : Addr) (w : World) (hR : Rs base g w ps) (hG : Gl base w a0 a1) (hs : base ≤ w.heap.size) (hl : ps.length ≤ 100)
    (hn : 0 < n) (hN : n ≤ 65536) (hb0 : base ≤ b0) (hb : w.heap[b0]? = some (.cells cur 5 (0, 0))) (hfit : o + n ≤ cur.size) :
    Calls Tryd.prog 25 #[.pointer (some ⟨g, 0, none⟩), .slice (some ⟨b0, o, none⟩) n c] w (ReadPost base g b0 o n ps cur a0 w) := by
  have HG := Aside0.mk hG
  have HBB := Aside0.mk hb
  have HR0 := Aside0.mk hR
  have hbase := hR.1
  have hn0 : ((n : Int) == 0) = false := beq_eq_false_iff_ne.2 (by omega)
  clear hG hb hR
  go_enter Tryd.func25, Tryd.ntmps25
  go_wp2
  go_loopg [] ps.length (fun kq w' => ∃ ps' : List ByteArray, Aside0 (cat ps' = cat ps ∧ ps'.length ≤ ps.length ∧ kq = ps'.length ∧ Rs base g w' ps' ∧ Kq base w w' ∧ w'.heap[b0]? = w.heap[b0]?))
  case atStart => exact ⟨ps, ⟨rfl, Nat.le_refl _, rfl, HR0.out, Kq.refl _ _, rfl⟩⟩
  case round =>
    obtain ⟨ps', HA⟩ := hrel
    obtain ⟨hcat, hlen', rfl, hR, hK, hbb⟩ := HA.out
    obtain ⟨_, v, z, hg, A, c', rfl, hc', hC, hA⟩ := hR
    have hc0 : wr.cell? ⟨g, 0, none⟩ = some (.slice A ps'.length c') := by rw [cell_of_row wr g 0 _ 37 (0, 0) hg]; rfl
    have hf0 := frozen_of_row wr g 0 _ 37 hg
    have HG0 := Aside0.mk hg
    have HK0 := Aside0.mk hK
    have HC0 := Aside0.mk hC
    have HCA := Aside0.mk hA
    have HBK := Aside0.mk hbb
    have hgb : b0 ≠ g := by
      rintro rfl
      have h1 := hbb.trans HBB.out
      rw [hg] at h1
      injection h1 with h1
      injection h1 with _ h1 _
      cases h1
    clear hK hg hA hbb
    cases ps' with
    | nil =>
      have hgl := (HG.out.below HK0.out.1).2.1
      simp only [List.length_nil] at hc0
      clear hcat hlen' hC hc' HC0 HCA HG0
      go_wp2
      go_quiet (fail)
      go_wp2
      go_ret2
      exact ⟨HK0.out.trans ⟨pw_below_drewN (Below.refl _ _) _, fun _ _ _ _ => rfl⟩, .inl ⟨HA.out.1.symm.trans rfl, rfl, ⟨hbase, HA.out.2.2.2.1.2⟩, HBK.out⟩⟩
    | cons p qs =>
      obtain ⟨ad, cc, rfl, hc1, hc2, hc3⟩ := hC.get_ ByteArray.empty 0 (by omega) (by simp)
      have hc2' : cc = [.string p] := hc2
      subst hc2'
      have hcx : wr.cell? ad = some (.string p) := by
        have := hc3 0 (.string p) rfl
        simpa [Addr.add] using this
      simp only [List.length_cons] at hc0 hc'
      clear hc1 hc2 hc3 hC
      by_cases hp : p.size = 0
      · obtain rfl : p = ⟨#[]⟩ := by
          obtain ⟨⟨l⟩⟩ := p
          have : l.length = 0 := hp
          rw [List.length_eq_zero_iff] at this
          subst this
          rfl
        obtain ⟨i0, hi, hz0, hz1, hz2⟩ := info_parts info9x
        have hsl := cut_from 22 9 .i64 Tryd.underlying22 hi 1 hz1 (some ad) (qs.length + 1) c' 1 (by omega) (by omega)
        have HP := Aside0.mk hcat
        have HQ := Aside0.mk hlen'
        clear hcat hlen' hp hsl
        by_cases hcc : c' = 1
        · have D := rs_drop hbase HG0.out hc' HC0.out HCA.out ad (by rw [if_pos hcc])
          rw [show c' - 1 = 0 by omega] at D
          have HD := Aside0.mk D
          clear D
          go_wp2
          go_roundg qs.length
          case measure => simp
          case rel => exact ⟨qs, ⟨by rw [← HP.out, cat_cons]; rfl, by have := HQ.out; simp at this; omega, rfl, HD.out.1, HK0.out.trans HD.out.2, (Below.heap_setCell _ _ _ _ hgb).trans HBK.out⟩⟩
        · have D := rs_drop hbase HG0.out hc' HC0.out HCA.out (ad.add 1) (by rw [if_neg hcc])
          have HD := Aside0.mk D
          clear D
          go_wp2
          go_roundg qs.length
          case measure => simp
          case rel => exact ⟨qs, ⟨by rw [← HP.out, cat_cons]; rfl, by have := HQ.out; simp at this; omega, rfl, HD.out.1, HK0.out.trans HD.out.2, (Below.heap_setCell _ _ _ _ hgb).trans HBK.out⟩⟩
      · have hpe : p.toList.isEmpty = false := by
          rw [ByteArray.toList_eq]
          cases hl : p.data.toList with
          | nil => exact (hp (by show p.data.toList.length = 0; rw [hl]; rfl)).elim
          | cons _ _ => rfl
        have hpe2 : (p.toList == []) = false := by
          cases hl : p.toList with
          | nil => rw [hl] at hpe; cases hpe
          | cons _ _ => rfl
        have HP := Aside0.mk hcat
        have HQ := Aside0.mk hlen'
        clear hcat hlen'
        obtain ⟨m, hm⟩ : ∃ m, m = Nat.min p.size n := ⟨_, rfl⟩
        have hm1 : m ≤ p.size := by rw [hm]; exact Nat.min_le_left _ _
        have hm2 : m ≤ n := by rw [hm]; exact Nat.min_le_right _ _
        have hm3 : 0 < m := by rw [hm]; exact Nat.lt_min.2 ⟨by omega, hn⟩
        obtain ⟨wc, hwc, hkc, hbc, hsc, hoc⟩ := copy_world (cs := (cur.toList.take o ++ Lib.byteCells (p.data.toList.take m) ++ cur.toList.drop (o + m)).toArray) hb0 (HBK.out.trans HBB.out)
        have hadb : ad.block ≠ b0 := by
          intro e
          rcases HCA.out ad rfl (by simp) with h | ⟨cells, mm, h⟩
          · omega
          · rw [e, HBK.out.trans HBB.out] at h
            injection h with h
            injection h with _ h _
            cases h
        have hc1 : wc.cell? ⟨g, 0, none⟩ = some (.slice (some ad) (qs.length + 1) c') := by rw [World.cell?_of_block (hoc g hgb.symm)]; exact hc0
        have hcz : wc.cell? ⟨g, 1, none⟩ = some (.int .i64 z) := by rw [World.cell?_of_block (hoc g hgb.symm), cell_of_row wr g 1 _ 37 (0, 0) HG0.out]; rfl
        have hcx1 : wc.cell? ad = some (.string p) := by rw [World.cell?_of_block (hoc ad.block hadb)]; exact hcx
        have hf1 : wc.frozen? ⟨g, 0, none⟩ = false := (World.frozen?_of_block (hoc g hgb.symm)).trans hf0
        have hf2 : wc.frozen? ⟨g, 1, none⟩ = false := (World.frozen?_of_block (hoc g hgb.symm)).trans (frozen_of_row wr g 1 _ 37 HG0.out)
        have HM := Aside0.mk hm
        have HWC := Aside0.mk hwc
        have HKC := Aside0.mk hkc
        have HBC := Aside0.mk hbc
        have HSC := Aside0.mk hsc
        have HOC := Aside0.mk hoc
        clear hm hwc hkc hbc hsc hoc
        go_upto_region 8 with ((with_reducible refine gate_builtin (b := .copy) (xs := #[.tmp 40, .tmp 46]) rfl ?_); refine wpList_copy_cut _ rfl (.tmp 40) (.tmp 46) 32 9 rfl 5 b0 o n c p cur 5 rfl rfl Tryd.underlying32 (by kernel_rfl) (HBK.out.trans HBB.out) hfit ?_; rw [← HM.out, ← HWC.out])
        obtain ⟨ad2, c2, hsl, hC2⟩ := tail_cut hc' (Rd.keep ⟨some ad, c', rfl, by simpa using hc', HC0.out, HCA.out⟩ HKC.out) (by have := HQ.out; simp at this; omega)
        have HC2 := Aside0.mk hC2
        have hgl : g < wc.heap.size := (Array.getElem?_eq_some_iff.1 ((HOC.out g hgb.symm).trans HG0.out)).1
        have HQL : Aside0 (qs.length ≤ 100) := ⟨by have := HQ.out; simp at this; omega⟩
        clear hC2 hc0 hcx
        go_region_law
          ((refine Kd.R_append_rows_step Kd.string (w0 := wc) wc.heap.size (by rfl) (.tmp 57) (.tmp 62) 22 9 (.string ⟨#[]⟩) 16 rfl Tryd.underlying22 info9x rfl (by decide) (by omega) (.slice (some ⟨wc.heap.size, 0, none⟩) 1 1) [p.extract m p.size] qs (some ad2) qs.length c2 (fun _ => True) (fun _ => False) rfl rfl ?aO ?aR (fun _ _ h => h) (fun _ h => h.elim) (fun _ _ => trivial) ?aB ?aS ?aL ?_; (case aO => exact built_R (by first | exact heap_alloc_new _ _ | simp) (Nat.le_refl _)); (case aR => first | exact Kd.C_drew (Kd.C_alloc HC2.out _) | exact Kd.C_alloc (Kd.C_drew HC2.out) _ | exact Kd.C_drewN (Kd.C_alloc HC2.out _) _); (case aB => repeat (first | exact Below.refl _ _ | (with_reducible first | apply below_alloc | apply pw_below_drewN | apply below_drew1 | apply below_drew))); (case aS => simp); (case aL => have := HQL.out; simp; omega); intro v1 w1 hR1 hB1 hgr1 hat1; obtain ⟨Av, cv, ev⟩ := Kd.R_slice hR1; (rw [List.singleton_append, List.length_cons] at ev); subst ev; have hk1 := pw_cell_below hB1 hc1; have hk2 := pw_cell_below hB1 hcx1; have hk3 := pw_cell_below hB1 hcz; have hk4 := (World.frozen?_of_block (hB1.block g hgl)).trans hf1; have hk5 := (World.frozen?_of_block (hB1.block g hgl)).trans hf2; have HR1 := Aside0.mk hR1; have HB1 := Aside0.mk hB1; clear hR1 hB1 hgr1 hat1))
        all_goals
          go_wp2
          go_ret2
          exact read_fin HP.out HQ.out hbase hm1 hm2 hm3 HK0.out HG0.out HKC.out HBC.out HOC.out hgb (Nat.le_trans (Nat.le_trans hs HK0.out.1.size) (Nat.le_of_eq HSC.out.symm)) HR1.out HB1.out
theorem info35x : (Tryd.prog.info? 35).bind (fun i => (i.methods.find? (·.name == "Read")).map (fun m => (m.path.toList, m.func))) = some ([], some (25, true)) := by kernel_rfl
theorem nil_ahead (g : Nat) (W : World) : (nilAhead 165 35 (.pointer (some ⟨g, 0, none⟩)) "Read").run Tryd.prog W = .ok (some false) W := by
  obtain ⟨i, hi, h2⟩ := Option.bind_eq_some_iff.1 info35x
  obtain ⟨m, hm, h3⟩ := Option.map_eq_some_iff.1 h2
  simp only [Prod.mk.injEq] at h3
  have h : ∀ fuel, (nilAhead (fuel + 1) 35 (.pointer (some ⟨g, 0, none⟩)) "Read").run Tryd.prog W = .ok (some false) W := by
    intro fuel
    simp [nilAhead, typeInfo, hi, hm, h3.1, h3.2, followBlind, run_underlying Tryd.underlying35]
  exact h 164
theorem run_read (g : Nat) (W : World) : (method 165 35 (.pointer (some ⟨g, 0, none⟩)) "Read").run Tryd.prog W = .ok (25, .pointer (some ⟨g, 0, none⟩)) W := by
  obtain ⟨i, hi, h2⟩ := Option.bind_eq_some_iff.1 info35x
  obtain ⟨m, hm, h3⟩ := Option.map_eq_some_iff.1 h2
  simp only [Prod.mk.injEq] at h3
  have h : ∀ fuel, (method (fuel + 1) 35 (.pointer (some ⟨g, 0, none⟩)) "Read").run Tryd.prog W = .ok (25, .pointer (some ⟨g, 0, none⟩)) W := by
    intro fuel
    simp [method, typeInfo, hi, hm, h3.1, h3.2, follow, receiverAt, Place.get, run_underlying Tryd.underlying35]
  exact h 164
theorem ReadPost.open_ {base g b0 o n : Nat} {ps : List ByteArray} {cur : Array Value} {a0 : Addr} {W w' : World} {e : Ending} (h : ReadPost base g b0 o n ps cur a0 W e w') :
    ∃ (m : Nat) (ev : Value) (ps' : List ByteArray), e = .returned (.tuple #[.int .i64 (m : Int), ev]) ∧ m ≤ n ∧ Kq base W w' ∧ Rs base g w' ps' ∧ ps'.length ≤ ps.length ∧ cat ps' = (cat ps).drop m ∧
      ((m = 0 ∧ cat ps = [] ∧ ev = .iface 44 (.pointer (some a0)) ∧ w'.heap[b0]? = W.heap[b0]?) ∨
       (0 < m ∧ m ≤ (cat ps).length ∧ ev = .nilIface ∧ w'.heap[b0]? = some (.cells (cur.toList.take o ++ Lib.byteCells ((cat ps).take m) ++ cur.toList.drop (o + m)).toArray 5 (0, 0)))) := by
  obtain ⟨hK, ⟨h1, h2, h3, h4⟩ | ⟨m, ps', h1, h2, h3, h4, h5, h6, h7, h8⟩⟩ := h
  · exact ⟨0, _, [], h2, Nat.zero_le _, hK, h3, Nat.zero_le _, by rw [h1]; rfl, .inl ⟨rfl, h1, rfl, h4⟩⟩
  · exact ⟨m, _, ps', h6, h2, hK, h7, h5, h4, .inr ⟨h1, h3, rfl, h8⟩⟩
theorem Kq.drew (base : Nat) (W : World) : Kq base W W.drew := ⟨Below.drew (Below.refl _ _), fun _ _ _ _ => rfl⟩
theorem Rs.drew {base g : Nat} {W : World} {ps : List ByteArray} (h : Rs base g W ps) : Rs base g W.drew ps := by
  obtain ⟨h1, v, z, h2, h3⟩ := h
  exact ⟨h1, v, z, h2, h3.keep (Kq.drew base W)⟩
theorem info44x : (Tryd.prog.info? 44).map (fun i => i.comparable) = some true := by kernel_rfl
theorem info62x : (Tryd.prog.info? 62).isSome = true := by kernel_rfl
theorem eof_same (W : World) (a : Addr) : (binOp .eql 29 (.iface 44 (.pointer (some a))) (.iface 44 (.pointer (some a)))).run Tryd.prog W = .ok (.bool true) W := by
  obtain ⟨i, hi, hc⟩ := Option.map_eq_some_iff.1 info44x
  obtain ⟨j, hj⟩ := Option.isSome_iff_exists.1 info62x
  exact run_eql_iface_ptr_same W a Tryd.underlying29 Tryd.underlying44 hi hc hj
def LeastPost (base b0 n : Nat) (ps : List ByteArray) (cur : Array Value) (W : World) (e : Ending) (w' : World) : Prop :=
  Below base W w' ∧ ∃ err : Value, e = .returned (.tuple #[.int .i64 ((min n (cat ps).length : Nat) : Int), err]) ∧ ((n ≤ (cat ps).length ∧ err = .nilIface) ∨ ((cat ps).length < n ∧ ∃ a : Addr, err = .iface 44 (.pointer (some a)))) ∧
    w'.heap[b0]? = some (.cells (Lib.byteCells ((cat ps).take n) ++ cur.toList.drop (min n (cat ps).length)).toArray 5 (0, 0))
theorem buf_step {l : List UInt8} {o m : Nat} {cur : List Value} (ho : o ≤ l.length) :
    ((Lib.byteCells (l.take o) ++ cur.drop o).toArray.toList.take o ++ Lib.byteCells ((l.drop o).take m) ++ (Lib.byteCells (l.take o) ++ cur.drop o).toArray.toList.drop (o + m)) = Lib.byteCells (l.take (o + m)) ++ cur.drop (o + m) := by
  have hl : (Lib.byteCells (l.take o)).length = o := by rw [Lib.byteCells_length, List.length_take]; omega
  have h1 : (Lib.byteCells (l.take o) ++ cur.drop o).take o = Lib.byteCells (l.take o) := by
    rw [List.take_append_of_le_length (by omega), List.take_of_length_le (by omega)]
  have h2 : (Lib.byteCells (l.take o) ++ cur.drop o).drop (o + m) = cur.drop (o + m) := by
    rw [List.drop_append, List.drop_eq_nil_of_le (by omega), List.nil_append, List.drop_drop, hl]
    congr 1
    omega
  have h3 : Lib.byteCells (l.take (o + m)) = Lib.byteCells (l.take o) ++ Lib.byteCells ((l.drop o).take m) := by
    rw [List.take_add]
    simp [Lib.byteCells]
  simp only [h1, h2, h3]
theorem least_fin {base g b0 n o : Nat} {ps ps' : List ByteArray} {cur : Array Value} {w w' : World} {err : Value}
    (h : o ≤ (cat ps).length ∧ cat ps' = (cat ps).drop o ∧ ps'.length ≤ 100 ∧ Rs base g w' ps' ∧ Kq base w w' ∧ w'.heap[b0]? = some (.cells (Lib.byteCells ((cat ps).take o) ++ cur.toList.drop o).toArray 5 (0, 0))) (ho : o ≤ n)
    (hc : (o = n ∧ err = .nilIface) ∨ (o < n ∧ (cat ps).length = o ∧ ∃ a : Addr, err = .iface 44 (.pointer (some a)))) : LeastPost base b0 n ps cur w (.returned (.tuple #[.int .i64 (o : Int), err])) w' := by
  obtain ⟨h1, h2, h3, h4, h5, h6⟩ := h
  have hm : min n (cat ps).length = o := by omega
  refine ⟨h5.1, err, by rw [hm], ?_, ?_⟩
  · rcases hc with ⟨rfl, h⟩ | ⟨h, hl, a⟩
    · exact .inl ⟨h1, h⟩
    · exact .inr ⟨by omega, a⟩
  · rw [hm, h6]
    rcases hc with ⟨rfl, h⟩ | ⟨h, hl, a⟩
    · rfl
    · rw [List.take_of_length_le (l := cat ps) (i := o) (by omega), List.take_of_length_le (l := cat ps) (i := n) (by omega)]
set_option maxHeartbeats 2000000 in
set_option maxRecDepth 100000 in
theorem least_calls (base g b0 n c : Nat) (ps : List ByteArray) (cur : Array Value) (a0 a1 : Addr) (w : World) (hR : Rs base g w ps) (hG : Gl base w a0 a1) (hs : base ≤ w.heap.size) (hl : ps.length ≤ 100)
    (hN : n ≤ 65536) (hnc : n ≤ c) (hb0 : base ≤ b0) (hb : w.heap[b0]? = some (.cells cur 5 (0, 0))) (hfit : n ≤ cur.size) :
    Calls Tryd.prog 9 #[.iface 35 (.pointer (some ⟨g, 0, none⟩)), .slice (some ⟨b0, 0, none⟩) n c, .int .i64 (n : Int)] w (LeastPost base b0 n ps cur w) := by
  have HG := Aside0.mk hG
  have HBB := Aside0.mk hb
  have HR0 := Aside0.mk hR
  have u35 := Tryd.underlying35
  clear hG hb hR
  go_enter Tryd.func9, Tryd.ntmps9
  go_wp2
  go_loopg [6, 7] (2 * n + 1) (fun kq v6 v7 w' => ∃ (o : Nat) (ps' : List ByteArray), v6 = .int .i64 (o : Int) ∧ o ≤ n ∧ Aside0 (o ≤ (cat ps).length ∧ cat ps' = (cat ps).drop o ∧ ps'.length ≤ 100 ∧ Rs base g w' ps' ∧ Kq base w w' ∧ w'.heap[b0]? = some (.cells (Lib.byteCells ((cat ps).take o) ++ cur.toList.drop o).toArray 5 (0, 0))) ∧
    ((v7 = .nilIface ∧ Aside0 (kq = 2 * (n - o) + 1)) ∨ (v7 = .iface 44 (.pointer (some a0)) ∧ Aside0 ((cat ps).length = o))))
  case atStart => exact ⟨0, ps, rfl, Nat.zero_le _, ⟨Nat.zero_le _, by simp, hl, HR0.out, Kq.refl _ _, by rw [HBB.out]; simp [Lib.byteCells]⟩, .inl ⟨rfl, ⟨rfl⟩⟩⟩
  case round =>
    obtain ⟨o, ps', rfl, hon, HA, hv⟩ := hrel
    have hso : base ≤ wr.heap.size := Nat.le_trans hs HA.out.2.2.2.2.1.1.size
    by_cases hlt : o < n
    · have hd1 : decide ((o : Int) < (n : Int)) = true := by simpa using hlt
      have hd2 : decide (o < n) = true := by simpa using hlt
      rcases hv with ⟨rfl, HQ⟩ | ⟨rfl, HQ⟩
      · obtain ⟨i0, hi, hz0, hz1, hz2⟩ := info_parts info5x
        have hsl0 := cut_from 32 5 .i64 Tryd.underlying32 hi 1 hz1 (some ⟨b0, 0, none⟩) n c (o : Int) (by omega) (by omega)
        have hsl : ∀ W : World, (Instr.slice 32 (.slice (some ⟨b0, 0, none⟩) n c) (some (.int .i64 (o : Int))) none none).run Tryd.prog W = .ok (.slice (some ⟨b0, o, none⟩) (n - o) (c - o)) W := by
          intro W
          rw [hsl0 W]
          have : c ≠ (o : Int).toNat := by omega
          simp [this, Addr.add_lit]
          omega
        clear hsl0
        go_upto_region 5 with (fail)
        have hmf : ∀ (fn : Fn) (first cap : Array Value) (w : World), (Instr.makeFunc fn first cap).run Tryd.prog w = .ok (.func fn first cap) w := fun _ _ _ _ => rfl
        have hna := nil_ahead g
        have hmr := run_read g
        have hR2 := HA.out.2.2.2.1.drew
        have hG2 := HG.out.below (HA.out.2.2.2.2.1.trans (Kq.drew base wr)).1
        have hfit2 : o + (n - o) ≤ (Lib.byteCells ((cat ps).take o) ++ cur.toList.drop o).toArray.size := by
          have := HA.out.1
          simp [Lib.byteCells_length]
          omega
        have hrd := read_calls base g b0 o (n - o) (c - o) ps' _ a0 a1 wr.drew hR2 hG2 hso HA.out.2.2.1 (by omega) (by omega) hb0 HA.out.2.2.2.2.2 hfit2
        have HRD := Aside0.mk hrd
        clear hrd hR2 hG2
        go_region_with ((go_at_call 25; refine HRD.out.mono ?_; rintro e w2 hpost; obtain ⟨m, ev, ps2, rfl, hmn, HX⟩ := hpost.open_; have HX := Aside0.mk HX; clear hpost))
        have hwk : IntKind.i64.wrap ((o : Int) + (m : Int)) = ((o + m : Nat) : Int) := by rw [IntKind.wrap_i64]; omega
        have HHA := Aside0.mk HA
        have HOL := Aside0.mk hon
        have HMN := Aside0.mk hmn
        rcases HX.out with ⟨hk2, hr2, hl2, hc2, ⟨rfl, he0, rfl, hb2⟩ | ⟨hm0, hm1, rfl, hb2⟩⟩
        · have HFIN : Aside0 (o + 0 ≤ n ∧ (o + 0 ≤ (cat ps).length ∧ cat ps2 = (cat ps).drop (o + 0) ∧ ps2.length ≤ 100 ∧ Rs base g w2 ps2 ∧ Kq base w w2 ∧ w2.heap[b0]? = some (.cells (Lib.byteCells ((cat ps).take (o + 0)) ++ cur.toList.drop (o + 0)).toArray 5 (0, 0))) ∧ (cat ps).length = o + 0) := by
            have h1 := HA.out
            have he : (cat ps).length = o := by
              have h2 := h1.2.1
              rw [he0] at h2
              have h3 := List.drop_eq_nil_iff.1 h2.symm
              omega
            exact ⟨hon, ⟨h1.1, by rw [hc2, h1.2.1]; rfl, by omega, hr2, (h1.2.2.2.2.1.trans (Kq.drew _ _)).trans hk2, hb2.trans h1.2.2.2.2.2⟩, he⟩
          clear hk2 hr2 hl2 hc2 he0 hb2 hmn HX HHA HA hso hon
          go_wp2
          go_roundg 0
          case measure => have h2 := HQ.out; omega
          case rel => exact ⟨o + 0, ps2, by first | rfl | simp, HFIN.out.1, ⟨HFIN.out.2.1⟩, .inr ⟨rfl, ⟨HFIN.out.2.2⟩⟩⟩
        · have HFIN : Aside0 (o + m ≤ n ∧ (o + m ≤ (cat ps).length ∧ cat ps2 = (cat ps).drop (o + m) ∧ ps2.length ≤ 100 ∧ Rs base g w2 ps2 ∧ Kq base w w2 ∧ w2.heap[b0]? = some (.cells (Lib.byteCells ((cat ps).take (o + m)) ++ cur.toList.drop (o + m)).toArray 5 (0, 0)))) := by
            have h1 := HA.out
            have h2 := h1.2.1
            rw [h2, List.length_drop] at hm1
            refine ⟨by omega, by omega, by rw [hc2, h2, List.drop_drop], by omega, hr2, (h1.2.2.2.2.1.trans (Kq.drew _ _)).trans hk2, ?_⟩
            rw [hb2, h2, buf_step h1.1]
          have HM0 := Aside0.mk hm0
          clear hk2 hr2 hl2 hc2 hb2 hmn HX HHA HA hso hon hm0 hm1
          go_wp2
          go_roundg (2 * (n - (o + m)) + 1)
          case measure => have h1 := HM0.out; have h2 := HQ.out; have h3 := HFIN.out.1; omega
          case rel => exact ⟨o + m, ps2, by first | rfl | simp, HFIN.out.1, ⟨HFIN.out.2⟩, .inl ⟨rfl, ⟨rfl⟩⟩⟩
      · have heq := fun W => eof_same W a0
        have hd3 : decide ((n : Int) ≤ (o : Int)) = false := by simpa using hlt
        have hd4 : decide (n ≤ o) = false := by simpa using hlt
        have hg1 := (HG.out.below HA.out.2.2.2.2.1.1).2.1
        have hg2 := (HG.out.below HA.out.2.2.2.2.1.1).2.2
        by_cases h0 : o = 0
        · have hd5 : decide ((0 : Int) < (o : Int)) = false := by simp; omega
          have hd6 : decide (0 < o) = false := by simp; omega
          go_wp2
          go_ret2
          subst h0
          exact least_fin HA.out hon (.inr ⟨hlt, HQ.out, _, rfl⟩)
        · have hd5 : decide ((0 : Int) < (o : Int)) = true := by simp; omega
          have hd6 : decide (0 < o) = true := by simp; omega
          go_wp2
          go_ret2
          exact least_fin HA.out hon (.inr ⟨hlt, HQ.out, _, rfl⟩)
    · obtain rfl : o = n := by omega
      have hd1 : decide ((o : Int) < (o : Int)) = false := by simp
      have hd3 : decide ((o : Int) ≤ (o : Int)) = true := by simp
      rcases hv with ⟨rfl, HQ⟩ | ⟨rfl, HQ⟩
      all_goals
        go_wp2
        go_ret2
        exact least_fin HA.out hon (.inl ⟨rfl, rfl⟩)
set_option maxHeartbeats 1000000 in
theorem rfull_calls (base g b0 n c : Nat) (ps : List ByteArray) (cur : Array Value) (a0 a1 : Addr) (w : World) (hR : Rs base g w ps) (hG : Gl base w a0 a1) (hs : base ≤ w.heap.size) (hl : ps.length ≤ 100)
    (hN : n ≤ 65536) (hnc : n ≤ c) (hb0 : base ≤ b0) (hb : w.heap[b0]? = some (.cells cur 5 (0, 0))) (hfit : n ≤ cur.size) :
    Calls Tryd.prog 8 #[.iface 35 (.pointer (some ⟨g, 0, none⟩)), .slice (some ⟨b0, 0, none⟩) n c] w (LeastPost base b0 n ps cur w) := by
  have HL := Aside0.mk (least_calls base g b0 n c ps cur a0 a1 w hR hG hs hl hN hnc hb0 hb hfit)
  clear hR hG hb
  go_enter Tryd.func8, Tryd.ntmps8
  go_wp2_with (go_at_call 9; refine HL.out.mono ?_; rintro e w2 hpost; obtain ⟨h1, err, rfl, h2, h3⟩ := hpost; have H1 := Aside0.mk h1; have H2 := Aside0.mk h2; have H3 := Aside0.mk h3; clear h1 h2 h3)
  go_ret2
  exact ⟨H1.out, err, rfl, H2.out, H3.out⟩
theorem wpList_made {P : Program} (w : World) {ops : Array Oper} {rest : List Oper} {o : Oper} {a : Act} {Q : Exit → Act → World → Prop}
    (hg : o.guard = none) (l c : Operand) (t : TypeId) (hop : o.op = Op.makeSlice t l c) (e : TypeId) (i : TypeInfo) (z : Value) (h1 : P.underlying t = some (.slice e)) (h2 : P.info? e = some i) (h3 : i.zero = some z) (h4 : i.size = 1) (h5 : i.bytes = 1)
    (kl kc : IntKind) (L C : Nat) (hl : a.eval l = .int kl (L : Int)) (hc : a.eval c = .int kc (C : Int)) (hlc : L ≤ C) (b2 : C ≤ 65536)
    (hK : wpList P ops Q rest (a.put o.dst (.slice (some ⟨w.heap.size, 0, none⟩) L C)) (w.alloc (.cells (madeCells z.cells C) e))) :
    wpList P ops Q (o :: rest) a w := by
  refine wpList_plain hg fun K hK' => ?_
  have hrun := run_make (P := P) w t e i z h1 h2 h3 kl kc (L : Int) (C : Int) (by omega) (by omega) (by rw [h5]; omega) (by omega)
  rw [h4] at hrun
  simp only [Int.toNat_natCast, Nat.mul_one] at hrun
  unfold Oper.wp
  simp [execOp, hop, hl, hc, hrun, Result.andThen]
  exact hK' _ _ hK
theorem made_zero (n : Nat) : (madeCells (Value.int .u8 0).cells n).toList = Lib.byteCells (List.replicate n 0) := by
  unfold madeCells
  simp [Value.cells, Lib.byteCells, Nat.mod_one]
  apply List.ext_getElem <;> simp
/-- What a buffer of n bytes holds when the pieces are read into it. -/
def got (n : Nat) (l : List UInt8) : List UInt8 := l.take n ++ List.replicate (n - l.length) 0
theorem got_length (n : Nat) (l : List UInt8) : (got n l).length = n := by simp [got]; omega
theorem got_cells {n m : Nat} {l : List UInt8} (h : n ≤ m) : (Lib.byteCells (l.take n) ++ (madeCells (Value.int .u8 0).cells m).toList.drop (min n l.length)).take n = Lib.byteCells (got n l) := by
  rw [made_zero]
  have h1 : Lib.byteCells (l.take n) ++ (Lib.byteCells (List.replicate m 0)).drop (min n l.length) = Lib.byteCells (l.take n ++ List.replicate (m - min n l.length) 0) := by
    simp [Lib.byteCells]
  rw [h1]
  have h2 : ∀ (k : Nat) (x : List UInt8), (Lib.byteCells x).take k = Lib.byteCells (x.take k) := by
    intro k x
    simp [Lib.byteCells]
  rw [h2]
  congr 1
  unfold got
  rw [List.take_append, List.take_of_length_le (by simp; omega), List.take_replicate]
  congr 2
  simp
  omega
def FullPost (base n : Nat) (ps : List ByteArray) (W : World) (e : Ending) (w' : World) : Prop :=
  Below base W w' ∧ ∃ (b1 c1 : Nat) (err : Value), e = .returned (.tuple #[.slice (some ⟨b1, 0, none⟩) n c1, err]) ∧ ((n ≤ (cat ps).length ∧ err = .nilIface) ∨ ((cat ps).length < n ∧ ∃ a : Addr, err = .iface 44 (.pointer (some a)))) ∧
    ∀ j (hj : j < (got n (cat ps)).length), w'.cell? ⟨b1, j, none⟩ = some (.int .u8 ((got n (cat ps))[j].toNat : Int))
theorem full_of_least {base b1 n m c1 : Nat} {ps : List ByteArray} {W0 W w' : World} {e : Ending} (h : LeastPost base b1 n ps (madeCells (Value.int .u8 0).cells m) W e w') (hnm : n ≤ m) (hb : Below base W0 W) :
    ∃ err, e = .returned (.tuple #[.int .i64 ((min n (cat ps).length : Nat) : Int), err]) ∧ FullPost base n ps W0 (.returned (.tuple #[.slice (some ⟨b1, 0, none⟩) n c1, err])) w' := by
  obtain ⟨h1, err, rfl, h2, h3⟩ := h
  refine ⟨err, rfl, hb.trans h1, b1, c1, err, rfl, h2, fun j hj => ?_⟩
  have hg := got_cells (l := cat ps) hnm
  have hl : j < n := by rwa [got_length] at hj
  rw [cell_of_row w' b1 j _ 5 (0, 0) h3]
  have : (Lib.byteCells ((cat ps).take n) ++ (madeCells (Value.int .u8 0).cells m).toList.drop (min n (cat ps).length))[j]? = some (.int .u8 ((got n (cat ps))[j].toNat : Int)) := by
    rw [← List.getElem?_take_of_lt hl, hg]
    simp [Lib.byteCells, hj]
  simpa using this
set_option maxHeartbeats 2000000 in
set_option maxRecDepth 100000 in
theorem full_calls (base g b0 n m : Nat) (ps : List ByteArray) (a0 a1 : Addr) (w : World) (hR : Rs base g w ps) (hG : Gl base w a0 a1) (hs : base ≤ w.heap.size) (hl : ps.length ≤ 100)
    (hN : n ≤ 65535) (hM : m ≤ 65535) (hb0 : base ≤ b0) (hb : w.heap[b0]? = some (.cells (madeCells (Value.int .u8 0).cells m) 5 (0, 0))) :
    Calls Tryd.prog 7 #[.iface 35 (.pointer (some ⟨g, 0, none⟩)), .slice (some ⟨b0, 0, none⟩) 0 m, .int .i64 (n : Int)] w (FullPost base n ps w) := by
  obtain ⟨i0, hi, hz0, hz1, hz2⟩ := info_parts info5x
  by_cases hnm : n ≤ m
  · have HL := Aside0.mk (rfull_calls base g b0 n m ps _ a0 a1 w hR hG hs hl (by omega) hnm hb0 hb (by rw [size_madeCells]; exact hnm))
    have hd1 : decide ((n : Int) ≤ (m : Int)) = true := by simpa using hnm
    have hd2 : decide (n ≤ m) = true := by simpa using hnm
    have hd3 : decide ((m : Int) < (n : Int)) = false := by simpa using hnm
    have hd4 : decide (m < n) = false := by simpa using hnm
    have hsl : ∀ W : World, (Instr.slice 32 (.slice (some ⟨b0, 0, none⟩) 0 m) none (some (.int .i64 (n : Int))) none).run Tryd.prog W = .ok (.slice (some ⟨b0, 0, none⟩) n m) W := by
      intro W
      have he : Tryd.prog.elem 32 = 5 := by kernel_rfl
      rw [run_slice_h W 32 _ 0 m (by rw [he]; exact Tryd.underlying32) .i64 (n : Int) (by omega) (by omega), he]
      simp [sizeOf, typeInfo, hi, sliced, Result.andThen, Addr.add]
    clear hR hG hb
    go_enter Tryd.func7, Tryd.ntmps7
    go_wp2_with (go_at_call 8; refine HL.out.mono ?_; rintro e w2 hpost; obtain ⟨err, rfl, HF⟩ := full_of_least (c1 := m) hpost hnm (Below.refl _ _); have HF := Aside0.mk HF; clear hpost)
    go_ret2
    exact HF.out
  · have hd1 : decide ((n : Int) ≤ (m : Int)) = false := by simpa using hnm
    have hd2 : decide (n ≤ m) = false := by simpa using hnm
    have hd3 : decide ((m : Int) < (n : Int)) = true := by simpa using hnm
    have hd4 : decide (m < n) = true := by simpa using hnm
    have hd5 : decide ((n : Int) ≤ 65536) = true := by simp; omega
    have hd6 : decide (n ≤ 65536) = true := by simp; omega
    have hsl : ∀ W : World, (Instr.slice 32 (.slice (some ⟨w.heap.size, 0, none⟩) n n) none (some (.int .i64 (n : Int))) none).run Tryd.prog W = .ok (.slice (some ⟨w.heap.size, 0, none⟩) n n) W := by
      have h := cut_to 32 5 .i64 Tryd.underlying32 hi (some ⟨w.heap.size, 0, none⟩) n n (n : Int) (by omega) (by omega) (Nat.le_refl _)
      simpa using h
    have hbl : Below base w (w.alloc (.cells (madeCells (Value.int .u8 0).cells n) 5)) := (Below.refl _ _).alloc hs _
    have HL := Aside0.mk (rfull_calls base g w.heap.size n n ps (madeCells (Value.int .u8 0).cells n) a0 a1 (w.alloc (.cells (madeCells (Value.int .u8 0).cells n) 5)) (by
      obtain ⟨h1, v, z, h2, h3⟩ := hR
      exact ⟨h1, v, z, (heap_alloc_old _ _ (Array.getElem?_eq_some_iff.1 h2).1).trans h2, h3.keep (Kq.below (below_alloc (Below.refl _ _) _) hs)⟩) (hG.below hbl) (by simp; omega) hl (by omega) (Nat.le_refl _) hs (heap_alloc_new _ _) (by rw [size_madeCells]; exact Nat.le_refl _))
    clear hR hG hb
    go_enter Tryd.func7, Tryd.ntmps7
    go_wp2_with (first | (at_make; refine wpList_made _ rfl _ _ 32 rfl 5 i0 (.int .u8 0) Tryd.underlying32 hi hz0 hz1 hz2 .i64 .i64 n n rfl rfl (Nat.le_refl _) (by omega) ?_) | (go_at_call 8; refine HL.out.mono ?_; rintro e w2 hpost; obtain ⟨err, rfl, HF⟩ := full_of_least (c1 := n) hpost (Nat.le_refl _) hbl; have HF := Aside0.mk HF; clear hpost))
    go_ret2
    exact HF.out
def DoorPost (n : Nat) (ps : List ByteArray) (W : World) (e : Ending) (w' : World) : Prop :=
  Below W.heap.size W w' ∧ ∃ err : Value, e = .returned (.tuple #[.string ⟨(got n (cat ps)).toArray⟩, err]) ∧ ((n ≤ (cat ps).length ∧ err = .nilIface) ∨ ((cat ps).length < n ∧ ∃ a : Addr, err = .iface 44 (.pointer (some a))))
set_option maxHeartbeats 2000000 in
set_option maxRecDepth 100000 in
theorem door_calls (A : Option Addr) (c n m : Nat) (ps : List ByteArray) (a0 a1 : Addr) (w : World) (hC : Kd.C Kd.string w A ps.length ps) (hc : ps.length ≤ c) (hG : Gl w.heap.size w a0 a1) (hl : ps.length ≤ 100) (hN : n ≤ 65535) (hM : m ≤ 65535) :
    Calls Tryd.prog 6 #[.slice A ps.length c, .int .i64 (m : Int), .int .i64 (n : Int)] w (DoorPost n ps w) := by
  obtain ⟨i0, hi, hz0, hz1, hz2⟩ := info_parts info5x
  have HC := Aside0.mk hC
  have HG := Aside0.mk hG
  clear hC hG
  go_enter Tryd.func6, Tryd.ntmps6
  go_upto_region 2 with (first | (at_make; refine wpList_made _ rfl _ _ 32 rfl 5 i0 (.int .u8 0) Tryd.underlying32 hi hz0 hz1 hz2 .i64 .i64 0 m rfl rfl (Nat.zero_le _) (by omega) ?_) )
  have hR : Rs w.heap.size w.heap.size ((w.alloc (.cells #[.slice A ps.length c, .int .i64 0] 37)).alloc (.cells (madeCells (Value.int .u8 0).cells m) 5)) ps := by
    refine ⟨Nat.le_refl _, .slice A ps.length c, 0, ?_, A, c, rfl, hc, Kd.C_alloc (Kd.C_alloc HC.out _) _, fun ad e hn => .inl ?_⟩
    · rw [heap_alloc_old _ _ (by simp)]
      exact heap_alloc_new _ _
    · subst e
      exact Kd.C_lt HC.out hn (by decide)
  have hB : Below w.heap.size w ((w.alloc (.cells #[.slice A ps.length c, .int .i64 0] 37)).alloc (.cells (madeCells (Value.int .u8 0).cells m) 5)) := below_alloc (below_alloc (Below.refl _ _) _) _
  have hb1 : ((w.alloc (.cells #[.slice A ps.length c, .int .i64 0] 37)).alloc (.cells (madeCells (Value.int .u8 0).cells m) 5)).heap[w.heap.size + 1]? = some (.cells (madeCells (Value.int .u8 0).cells m) 5 (0, 0)) := by
    have := heap_alloc_new (w.alloc (.cells #[.slice A ps.length c, .int .i64 0] 37)) (.cells (madeCells (Value.int .u8 0).cells m) 5)
    simpa using this
  refine (full_calls w.heap.size w.heap.size (w.heap.size + 1) n m ps a0 a1 _ hR (HG.out.below hB) (by simp; omega) hl hN hM (by omega) hb1).mono ?_
  rintro e w2 ⟨h1, b1, c1, err, rfl, h2, h3⟩
  have HB := Aside0.mk (hB.trans h1)
  have hlen := got_length n (cat ps)
  have hcv := run_convert_bytes_back (P := Tryd.prog) w2 32 9 5 ⟨b1, 0, none⟩ c1 (got n (cat ps)) Tryd.underlying32 Tryd.underlying5 Tryd.underlying9 (fun j hj => by rw [Addr.add_lit, Nat.zero_add]; exact h3 j hj)
  rw [hlen] at hcv
  have H2 := Aside0.mk h2
  clear h1 h2 h3 hR hB hb1 hlen
  go_wp2
  go_ret2
  exact ⟨HB.out, err, rfl, H2.out⟩
theorem Gl.up {w W : World} (h : ∃ b0 b1, Gl w.heap.size w b0 b1) (hb : Below w.heap.size w W) : ∃ b0 b1, Gl W.heap.size W b0 b1 := by
  obtain ⟨b0, b1, h⟩ := h
  have h2 := h.below hb
  exact ⟨b0, b1, Nat.lt_of_lt_of_le h2.1 hb.size, h2.2⟩
def impl_WrFull.f (a0 : List ByteArray) (a1 a2 : Int) : Option (ByteArray × Bool) :=
  if 0 ≤ a1 ∧ a1 ≤ 65535 ∧ 0 ≤ a2 ∧ a2 ≤ 65535 ∧ a0.length ≤ 100 then some (⟨(got a2.toNat (cat a0)).toArray⟩, decide (a2.toNat ≤ (cat a0).length)) else none
set_option maxHeartbeats 2000000 in
set_option maxRecDepth 100000 in
theorem impl_WrFull.calls (A0 : Option Addr) (c0 : Nat) (l0 : List ByteArray) (a1 a2 : Int) (r1 : ByteArray) (r2 : Bool) (w : World) (hr0 : Kd.C Kd.string w A0 l0.length l0) (hc0 : l0.length ≤ c0) (hG : ∃ b0 b1, Gl w.heap.size w b0 b1) (h : impl_WrFull.f l0 a1 a2 = some (r1, r2)) :
    Calls Tryd.prog 5 #[.slice A0 l0.length c0, .int .i64 a1, .int .i64 a2] w fun e w' => e = .returned (.tuple #[.string r1, .bool r2]) ∧ Below w.heap.size w w' := by
  obtain ⟨b0, b1, hG⟩ := hG
  unfold impl_WrFull.f at h
  split at h
  · rename_i hd
    obtain ⟨m, rfl⟩ : ∃ m : Nat, a1 = (m : Int) := ⟨a1.toNat, by omega⟩
    obtain ⟨n, rfl⟩ : ∃ n : Nat, a2 = (n : Int) := ⟨a2.toNat, by omega⟩
    simp only [Int.toNat_natCast, Option.some.injEq, Prod.mk.injEq] at h
    obtain ⟨rfl, rfl⟩ := h
    have HD := Aside0.mk (door_calls A0 c0 n m l0 b0 b1 w hr0 hc0 hG hd.2.2.2.2 (by omega) (by omega))
    clear hd hr0 hc0 hG
    go_enter Tryd.func5, Tryd.ntmps5
    go_upto_region 1 with (fail)
    go_upto_region 2 with (go_at_call 6; refine HD.out.mono ?_; rintro e w2 hpost; obtain ⟨h1, err, rfl, h2⟩ := hpost; have H1 := Aside0.mk h1; have H2 := Aside0.mk h2; clear h1 h2)
    rcases H2.out with ⟨hle, rfl⟩ | ⟨hlt, a, rfl⟩
    · have hd1 : decide (n ≤ (cat l0).length) = true := by simpa using hle
      go_quiet (fail)
      go_wp2
      go_ret2
      first | exact ⟨rfl, pw_below_drewN H1.out _⟩ | (rw [hd1]; exact ⟨rfl, pw_below_drewN H1.out _⟩)
    · have hd1 : decide (n ≤ (cat l0).length) = false := by simpa using hlt
      go_quiet (fail)
      go_wp2
      go_ret2
      first | exact ⟨rfl, pw_below_drewN H1.out _⟩ | (rw [hd1]; exact ⟨rfl, pw_below_drewN H1.out _⟩)
  · cases h

end Go.Proofs.YtodphfcneiodhaaDoor.MFnWrFull
