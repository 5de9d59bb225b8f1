import Derived.Below
import Derived.Deep.Draws
import Derived.Deep.AppendLies
import Derived.Maps.AppendAt
import Derived.OwnWalk
import Derived.Laws.BytesArg
import Derived.Laws.MakeOwn
import Derived.Laws.OwnMore
import Derived.Deep.OwnRows
import Derived.Tactics
import Derived.Lib.ConvBytes
import Derived.Laws.Slices
import Derived.WalkKit
import Derived.KernelRfl
import Derived.RowKit3
import Derived.Deep.LoopGhost
import Derived.Deep.QuietTactic
import Derived.BigQuiet
import Derived.WideLaws
import Derived.Deep.DeepCutAuto
import Derived.Deep.CutBlock
import Derived.Deep.RegionHeld3
import Derived.Laws.Rows
import Derived.Lib.AppendStr
import Derived.ArgAppend
import Derived.Laws.IdiomCopy
import Derived.RowKit
import Derived.OrdersHeld
import Derived.Laws.BitsLemmas
import Derived.Laws.StructEq
set_option maxRecDepth 100000
set_option maxHeartbeats 16000000
set_option linter.unusedVariables false
set_option linter.unusedSimpArgs false
namespace Go.Proofs.aa.az
open Go.RowKit
structure U (p : Prop) : Prop where mk :: (out : p)
structure ah (w w' : World) : Prop where mk :: (out : ∃ n,w' = w.drewN n)
theorem ah.refl (w : World) : ah w w := ⟨⟨0,rfl⟩⟩
theorem ah.step {w w' : World} (h : ah w w') (n : Nat) : ah w (w'.drewN n) := by
  obtain ⟨m,rfl⟩ := h
  exact ⟨⟨m + n,World.drewN_drewN ..⟩⟩
def rd (xs : List Int) (i : Int) : Int := xs.getD i.toNat 0
def bt (s : ByteArray) (i : Int) : Int := if h : i.toNat < s.size then ((s[i.toNat]'h).toNat : Int) else 0
theorem bq (s : ByteArray) (i : Int) : ∀ h : i.toNat < s.size,((s[i.toNat]'h).toNat : Int) = bt s i := fun h => by simp [bt,h]
def ahM (k : IntKind) (xs : List Int) : List Value := xs.map fun x => .int k x
theorem ab {w W : World} (h : Below w.heap.size w W) (o : Obj) : Below w.heap.size w (W.alloc o) := h.alloc h.size o
theorem Mr {B : Nat} {w W : World} (h : Below B w W) : Below B w W.drew := ⟨h.os,h.tape,h.output,h.size,h.block⟩
theorem ai {B : Nat} {w W : World} (h : Below B w W) (n : Nat) : Below B w (W.drewN n) := ⟨h.os,h.tape,h.output,h.size,h.block⟩
theorem Mq {B : Nat} {w w1 w2 : World} (h : Below B w w1) (hB : B ≤ w1.heap.size) (k : Below w1.heap.size w1 w2) : Below B w w2:=
  h.trans ⟨k.os,k.tape,k.output,k.size,fun i hi => k.block i (Nat.lt_of_lt_of_le hi hB)⟩
theorem FX {w w1 : World} (h : Below w.heap.size w w1) (row : Option Nat) : w.grownBy w1 row := ⟨h.os,h.tape,h.output,h.size,fun i hi _ => h.block i hi⟩
theorem ag {w w1 : World} (h : Below w.heap.size w w1) {a : Addr} {v : Value} (hc : w.cell? a = some v) : w1.cell? a = some v := (h.cell (World.block_lt_of_cell? w a hc)).trans hc
def JV (w : World) (k : IntKind) (A : Option Addr) (n : Nat) (xs : List Int) : Prop:=
  xs.length = n ∧ n ≤ 9223372036854775807 ∧ (0 < n → ∃ ad,A = some ad ∧ ∀ j,j < n → w.cell? (ad.add j) = some (.int k (xs.getD j 0)))
theorem JV.at_ {w : World} {k : IntKind} {A : Option Addr} {n : Nat} {xs : List Int} (h : JV w k A n xs) (i : Int) (h0 : 0 ≤ i) (h1 : i < n) : ∃ ad,A = some ad ∧ w.cell? (ad.add i.toNat) = some (.int k (rd xs i)) := by
  obtain ⟨ad,e,hc⟩ := h.2.2 (by omega)
  exact ⟨ad,e,hc _ (by omega)⟩
theorem KD (W : World) (base : Nat) (e : TypeId) (size : Nat) : W.ownsRow base e size (.slice none 0 0) 0 [] := ⟨by simp,.inl ⟨rfl,rfl⟩⟩
theorem dY {w : World} {base : Nat} {e : TypeId} {size n : Nat} {v : Value} {xs : List Value} (h : w.ownsRow base e size v n xs) (k : Nat) (hk : v.ownBlock = some k) : base ≤ k := by
  rcases h.2 with ⟨rfl,_⟩ | ⟨g,cap,cur,rfl,hb,_⟩
  · simp [Value.ownBlock] at hk
  · have : g = k := by simpa [Value.ownBlock] using hk
    omega
theorem gq {w : World} {base : Nat} {e : TypeId} {size n : Nat} {v : Value} {xs : List Value} (h : w.ownsRow base e size v n xs) (k : Nat) (hk : v.ownBlock = some k) : k < w.heap.size := by
  rcases h.2 with ⟨rfl,_⟩ | ⟨g,cap,cur,rfl,hb,hh,_⟩
  · simp [Value.ownBlock] at hk
  · have : g = k := by simpa [Value.ownBlock] using hk
    subst this
    exact (Array.getElem?_eq_some_iff.1 hh).1
theorem iU {w w1 : World} {base : Nat} {e : TypeId} {size n : Nat} {v : Value} {xs : List Value} (h : w.ownsRow base e size v n xs) (hb : Below w.heap.size w w1) : w1.ownsRow base e size v n xs:=
  h.kept (FX hb none) (by cases v.ownBlock <;> simp)
theorem dX {w : World} {base n : Nat} {e : TypeId} {size : Nat} {v : Value} {xs : List Value} (h : w.ownsRow base e size v n xs) : ∃ A c,v = .slice A n c := by
  rcases h.2 with ⟨rfl,rfl⟩ | ⟨g,cap,cur,rfl,_⟩
  · exact ⟨none,0,rfl⟩
  · exact ⟨_,cap,rfl⟩
section
variable {P : Program} {ops : Array Oper} {rest : List Oper} {o : Oper} {a : Act} {Q : Exit → Act → World → Prop}
end
section
variable {P : Program}
end
section
variable {P : Program} {ops : Array Oper} {rest : List Oper} {o : Oper} {a : Act} {Q : Exit → Act → World → Prop}
end
def dw {α : Type} (a b : Option α) : Prop := ∀ r,a = some r → b = some r
theorem dw.refl {α : Type} (a : Option α) : dw a a := fun _ h => h
theorem dw.trans {α : Type} {a b c : Option α} (h : dw a b) (k : dw b c) : dw a c := fun r hr => k r (h r hr)
theorem dw.ite {α : Type} {c : Prop} [Decidable c] {a a' b b' : Option α} (h : dw a a') (k : dw b b') : dw (if c then a else b) (if c then a' else b') := by
  split
  · exact h
  · exact k
theorem dw.bind {α β : Type} {a a' : Option α} {f f' : α → Option β} (h : dw a a') (k : ∀ x,dw (f x) (f' x)) : dw (a.bind f) (a'.bind f') := by
  intro r hr
  obtain ⟨x,hx,hf⟩ := Option.bind_eq_some_iff.1 hr
  exact Option.bind_eq_some_iff.2 ⟨x,h x hx,k x r hf⟩
theorem Dc {α : Type} {g : Nat → Option α} (h : ∀ k,dw (g k) (g (k + 1))) (k : Nat) : ∀ j,dw (g k) (g (k + j))
  | 0 => dw.refl _
  | j + 1 => (Dc h k j).trans (h (k + j))
theorem BN {α : Type} {g : Nat → Option α} (h : ∀ k,dw (g k) (g (k + 1))) {k k' : Nat} (hk : k ≤ k') {r : α} (hr : g k = some r) : g k' = some r := by
  have := Dc h k (k' - k) r hr
  rwa [Nat.add_sub_cancel' hk] at this
def eG {α : Type} (R : α → List Value → Prop) (size : Nat) (ps : List α) (cs : List Value) : Prop:=
  cs.length = ps.length * size ∧ ∀ j p,ps[j]? = some p → R p ((cs.drop (j * size)).take size)
theorem eG.none {α : Type} (R : α → List Value → Prop) (size : Nat) : eG R size [] [] := ⟨by simp,fun j p h => by simp at h⟩
theorem eG.snoc {α : Type} {R : α → List Value → Prop} {size : Nat} {ps : List α} {cs c : List Value} {p : α} (h : eG R size ps cs) (hp : R p c) (hc : c.length = size) : eG R size (ps ++ [p]) (cs ++ c) := by
  refine ⟨by rw [List.length_append,h.1,hc,List.length_append,List.length_singleton,Nat.add_mul,Nat.one_mul],fun j q hq => ?_⟩
  rcases Nat.lt_or_ge j ps.length with hj | hj
  · rw [List.getElem?_append_left hj] at hq
    have h1 : j * size + size ≤ cs.length := by rw [h.1,← Nat.succ_mul]; exact Nat.mul_le_mul_right _ hj
    have h2 := h.2 j q hq
    rw [List.drop_append_of_le_length (by omega),List.take_append_of_le_length (by rw [List.length_drop]; omega)]
    exact h2
  · have Tp : j = ps.length := by
      have := (List.getElem?_eq_some_iff.1 hq).1
      rw [List.length_append,List.length_singleton] at this
      omega
    subst Tp
    have hq' : p = q := by simpa using hq
    subst hq'
    rw [← h.1,List.drop_left,← hc,List.take_length]
    exact hp
theorem eG.iA {α : Type} {R R' : α → List Value → Prop} {size : Nat} {ps : List α} {cs : List Value} (h : eG R size ps cs) (hR : ∀ p c,R p c → R' p c) : eG R' size ps cs := ⟨h.1,fun j p hj => hR _ _ (h.2 j p hj)⟩
def ft {α : Type} (R : α → List Value → Prop) (size : Nat) (w : World) (A : Option Addr) (n : Nat) (ps : List α) : Prop:=
  ps.length = n ∧ n ≤ 9223372036854775807 ∧ (0 < n → ∃ ad,A = some ad ∧ ∀ j p,ps[j]? = some p → ∃ c,c.length = size ∧ R p c ∧ ∀ i u,c[i]? = some u → w.cell? (ad.add (j * size + i)) = some u)
theorem ft.ae6 {α : Type} {R : α → List Value → Prop} {size : Nat} {w : World} {A : Option Addr} {n : Nat} {ps : List α} (h : ft R size w A n ps) (d : α) (i : Int) (h0 : 0 ≤ i) (h1 : i < n) :
    ∃ ad c,A = some ad ∧ c.length = size ∧ R (ps.getD i.toNat d) c ∧ ∀ j u,c[j]? = some u → w.cell? (ad.add (i.toNat * size + j)) = some u := by
  obtain ⟨ad,e,hc⟩ := h.2.2 (by omega)
  have hl : i.toNat < ps.length := by have := h.1; omega
  obtain ⟨c,hs,hr,hcell⟩ := hc i.toNat _ (List.getElem?_eq_getElem hl)
  refine ⟨ad,c,e,hs,?_,hcell⟩
  rw [List.getD_eq_getElem?_getD,List.getElem?_eq_getElem hl]
  exact hr
theorem ft.iA {α : Type} {R R' : α → List Value → Prop} {size : Nat} {w w1 : World} {A : Option Addr} {n : Nat} {ps : List α} (h : ft R size w A n ps) (hb : Below w.heap.size w w1) (hR : ∀ p c,R p c → R' p c) : ft R' size w1 A n ps:=
  ⟨h.1,h.2.1,fun hn => by
    obtain ⟨ad,e,hc⟩ := h.2.2 hn
    refine ⟨ad,e,fun j p hj => ?_⟩
    obtain ⟨c,hs,hr,hcell⟩ := hc j p hj
    exact ⟨c,hs,hR _ _ hr,fun i u hu => ag hb (hcell i u hu)⟩⟩
theorem G4 {α : Type} {R : α → List Value → Prop} {w : World} {base n size : Nat} {e : TypeId} {v : Value} {ps : List α} {cs : List Value} (h : w.ownsRow base e size v n cs) (hR : eG R size ps cs) (hn : ps.length = n) :
    ∃ A c,v = .slice A n c ∧ ft R size w A n ps := by
  rcases Nat.eq_zero_or_pos n with h0 | h0
  · rcases h.2 with ⟨rfl,rfl⟩ | ⟨g,cap,cur,rfl,_⟩
    · exact ⟨none,0,rfl,hn,by omega,fun hp => absurd hp (by omega)⟩
    · exact ⟨_,cap,rfl,hn,by omega,fun hp => absurd hp (by omega)⟩
  · obtain ⟨g,cap,rfl,_,_⟩ := h.form h0
    have hm : n ≤ 9223372036854775807 := by
      rcases h.2 with ⟨_,h1⟩ | ⟨g', cap', cur,he,_,_,h1,h2,_⟩
      · omega
      · simp only [maxLen] at h2
        omega
    refine ⟨_,cap,rfl,hn,hm,fun _ => ⟨_,rfl,fun j p hj => ⟨(cs.drop (j * size)).take size,?_,hR.2 j p hj,fun i u hu => ?_⟩⟩⟩
    · have K6 := (List.getElem?_eq_some_iff.1 hj).1
      have h1 : j * size + size ≤ cs.length := by rw [hR.1,← Nat.succ_mul]; exact Nat.mul_le_mul_right _ K6
      rw [List.length_take,List.length_drop]
      omega
    · refine h.cells (g := g) rfl _ u ?_
      rw [List.getElem?_take] at hu
      split at hu
      · rw [List.getElem?_drop] at hu
        exact hu
      · cases hu
theorem jQ (ad : Addr) (m j : Nat) (hj : 0 < j) : ad.add (m + j) = ⟨(ad.add m).block,(ad.add m).off + j,none⟩ := by
  unfold Addr.add
  by_cases hm : m = 0
  · subst hm
    simp [Nat.ne_of_gt hj]
  · simp [hm,Nat.add_assoc]
section
variable {P : Program} {ops : Array Oper} {rest : List Oper} {o : Oper} {a : Act} {Q : Exit → Act → World → Prop}
theorem kN {w0 W : World} (base : Nat) (Ji : o.guard = none) (s x : Operand) (t e : TypeId) (z : Value) (size bytes : Nat)
    (ho : o.op = .call { callee := .builtin .append,args := #[s,x],argTypes := #[t,t] })
    (ht : P.underlying t = some (.slice e)) (z6 : (P.info? e).map (fun i => (i.zero,i.size,i.bytes)) = some (some z,size,bytes)) (hz : z.cells.size = size) (lA : 0 < size) (kR : 0 < bytes)
    (v : Value) (n : Nat) (xs ys : List Value) (hs : a.eval s = v) (hx : a.eval x = .slice (some ⟨W.heap.size,0,none⟩) 1 1) (hys : ys.length = size) (h1 : ∀ u ∈ ys,u.oneCell' = true)
    (HO : W.ownsRow base e size v n xs) (HB : Below base w0 W) (j6 : base ≤ W.heap.size) (hl : (n + 1) * bytes ≤ 140737488355328)
    (h : ∀ v1 w1,w1.ownsRow base e size v1 (n + 1) (xs ++ ys) → Below base w0 w1 → W.grownBy w1 v.ownBlock → (v1.ownBlock = v.ownBlock ∨ ∃ b,v1.ownBlock = some b ∧ W.heap.size ≤ b) → wpList P ops Q rest (a.put o.dst v1) w1) :
    wpList P ops Q (o :: rest) a (W.alloc (.cells ys.toArray e)) := by
  obtain ⟨i0,hi,gr⟩ := Option.map_eq_some_iff.1 z6
  simp only [Prod.mk.injEq] at gr
  obtain ⟨il,vu,zE⟩ := gr
  have hlen : n + 1 ≤ 140737488355328 := Nat.le_trans (Nat.le_mul_of_pos_right _ kR) hl
  refine wpList_append_own_at (W.alloc (.cells ys.toArray e)) Ji s x t ho base e i0 z size bytes ht hi il vu zE hz lA v n xs hs (HO.alloc _) ⟨W.heap.size,0,none⟩ 1 1 ys hx (by rw [hys]; simp)
    (by simpa using World.news_of_block (cs := ys.toArray) (t := e) (fr := (0,0)) (heap_alloc_new W (.cells ys.toArray e))) h1 (by simp only [maxLen]; omega) hl (by simp; omega) ?_
  intro v1 w1 hown hg _ cM
  refine h v1 w1 hown ((HB.alloc j6 _).grown hg (by simp; omega) (dY HO)) (World.grownBy.trans (World.grownBy_alloc W _ _) hg) ?_
  rcases cM with cM | cM
  · exact .inl cM
  · exact .inr ⟨_,cM,by simp⟩
end
theorem Bg {w : World} {base : Nat} {e t : TypeId} {size n g : Nat} {v : Value} {xs : List Value} {cs : Array Value} (h : w.ownsRow base e size v n xs) (hg : w.heap[g]? = some (.cells cs t (0,0))) (hne : e ≠ t) : some g ≠ v.ownBlock := by
  rcases h.2 with ⟨rfl,_⟩ | ⟨g', cap,cur,rfl,_,hh,_⟩
  · simp [Value.ownBlock]
  · intro he
    have : g = g' := by simpa [Value.ownBlock] using he
    subst this
    rw [hg] at hh
    injection hh with hh
    injection hh with _ ht
    exact hne ht.symm
theorem gC {w : World} {base : Nat} {e : TypeId} {size n : Nat} {v : Value} {xs : List Value} (h : w.ownsRow base e size v n xs) {p : Addr} (hne : some p.block ≠ v.ownBlock) (u : Value) : (w.setCell p u).ownsRow base e size v n xs := by
  obtain ⟨h1,h2⟩ := h
  refine ⟨h1,?_⟩
  rcases h2 with h2 | ⟨g,cap,cur,rfl,hg,hh,r⟩
  · exact .inl h2
  · exact .inr ⟨g,cap,cur,rfl,hg,by rw [Below.heap_setCell _ _ _ _ (fun e => hne (by rw [e]; rfl))]; exact hh,r⟩
theorem Vd {w : World} {g : Nat} {t : TypeId} {cs : Array Value} (h : w.heap[g]? = some (.cells cs t (0,0))) (i : Nat) (u : Value) : (w.setCell ⟨g,i,none⟩ u).heap[g]? = some (.cells (cs.setIfInBounds i u) t (0,0)) := by
  simp [World.setCell,Array.getElem?_modify,h]
theorem dz {w : World} {g : Nat} {t : TypeId} {cs : Array Value} (h : w.heap[g]? = some (.cells cs t (0,0))) {p : Addr} (hp : g ≠ p.block) (u : Value) : (w.setCell p u).heap[g]? = some (.cells cs t (0,0)) := (Below.heap_setCell w p u g hp).trans h
theorem fB {w : World} {g : Nat} {o : Obj} (h : w.heap[g]? = some o) : g < w.heap.size := (Array.getElem?_eq_some_iff.1 h).1
theorem aK {w : World} {g : Nat} {t : TypeId} {cs : Array Value} (h : w.heap[g]? = some (.cells cs t (0,0))) (i : Nat) : w.cell? ⟨g,i,none⟩ = cs[i]? := cell_of_row w g i cs t (0,0) h
theorem aY {w : World} {g : Nat} {t : TypeId} {cs : Array Value} (h : w.heap[g]? = some (.cells cs t (0,0))) (i : Nat) : w.frozen? ⟨g,i,none⟩ = false := by simp [World.frozen?,h]
theorem kW {w w1 : World} {g : Nat} {o : Obj} {row : Option Nat} (h : w.heap[g]? = some o) (hg : w.grownBy w1 row) (hne : some g ≠ row) : w1.heap[g]? = some o := (hg.block g (fB h) hne).trans h
def C0 (w w' : World) (g : Nat) (row : Option Nat) : Prop := w.heap.size ≤ w'.heap.size ∧ ∀ i,i < w.heap.size → i ≠ g → some i ≠ row → w'.heap[i]? = w.heap[i]?
theorem C0.trans {w w1 w2 : World} {g : Nat} {row Qc : Option Nat} (h : C0 w w1 g row) (k : C0 w1 w2 g Qc) (hr : Qc = row ∨ ∃ b,Qc = some b ∧ w.heap.size ≤ b) : C0 w w2 g row:=
  ⟨Nat.le_trans h.1 k.1,fun i hi hg hn => by
    refine (k.2 i (Nat.lt_of_lt_of_le hi h.1) hg ?_).trans (h.2 i hi hg hn)
    rcases hr with rfl | ⟨b,rfl,hb⟩
    · exact hn
    · intro e
      injection e with e
      omega⟩
def Ev {α : Type} (g : Nat → Option α) (r : α) : Prop := ∃ K,∀ k,K ≤ k → g k = some r
theorem Ev.now {α : Type} (r : α) : Ev (fun _ => some r) r := ⟨0,fun _ _ => rfl⟩
theorem Ev.rounds {α : Type} {g : Nat → Option α} {r : α} (h : Ev g r) : ∃ k,g k = some r := by
  obtain ⟨K,h⟩ := h
  exact ⟨K,h K (Nat.le_refl _)⟩
theorem Ev.bind {α β : Type} {g : Nat → Option α} {f : Nat → α → Option β} {a : α} {r : β} (h : Ev g a) (k : Ev (fun n => f n a) r) : Ev (fun n => (g n).bind (f n)) r := by
  obtain ⟨K,h⟩ := h
  obtain ⟨K', k⟩ := k
  refine ⟨max K K', fun n hn => ?_⟩
  have h1 := h n (by omega)
  have h2 := k n (by omega)
  simp only [h1,Option.bind_some]
  exact h2
theorem Ev.step {α : Type} {g f : Nat → Option α} {r : α} (h : ∀ k,g (k + 1) = f k) (k : Ev f r) : Ev g r := by
  obtain ⟨K,k⟩ := k
  refine ⟨K + 1,fun n hn => ?_⟩
  obtain ⟨m,rfl⟩ : ∃ m,n = m + 1 := ⟨n - 1,by omega⟩
  rw [h]
  exact k m (by omega)
theorem Ev.congr {α : Type} {g f : Nat → Option α} {r : α} (h : ∀ k,g k = f k) (k : Ev f r) : Ev g r := by
  obtain ⟨K,k⟩ := k
  exact ⟨K,fun n hn => (h n).trans (k n hn)⟩
section
variable {P : Program} {ops : Array Oper} {o : Oper} {a : Act} {Q : Exit → Act → World → Prop} {K : Act → World → Prop}
theorem C6 {w0 W : World} (base : Nat) (hw : Region.wanted o (yielded ops a.tmps) = true) (s x : Operand) (t e : TypeId) (z : Value) (size bytes : Nat)
    (ho : o.op = .call { callee := .builtin .append,args := #[s,x],argTypes := #[t,t] })
    (ht : P.underlying t = some (.slice e)) (z6 : (P.info? e).map (fun i => (i.zero,i.size,i.bytes)) = some (some z,size,bytes)) (hz : z.cells.size = size) (lA : 0 < size) (kR : 0 < bytes)
    (v : Value) (n : Nat) (xs ys : List Value) (hs : a.eval s = v) (hx : a.eval x = .slice (some ⟨W.heap.size,0,none⟩) 1 1) (hys : ys.length = size) (h1 : ∀ u ∈ ys,u.oneCell' = true)
    (HO : W.ownsRow base e size v n xs) (HB : Below base w0 W) (j6 : base ≤ W.heap.size) (hl : (n + 1) * bytes ≤ 140737488355328)
    (h : ∀ v1 w1,w1.ownsRow base e size v1 (n + 1) (xs ++ ys) → Below base w0 w1 → W.grownBy w1 v.ownBlock → (v1.ownBlock = v.ownBlock ∨ ∃ b,v1.ownBlock = some b ∧ W.heap.size ≤ b) → K (a.put o.dst v1) w1) :
    if Region.wanted o (yielded ops a.tmps) = true then Oper.wp P o a (W.alloc (.cells ys.toArray e)) K Q else K (a.put o.dst undef) (W.alloc (.cells ys.toArray e)) := by
  obtain ⟨i0,hi,gr⟩ := Option.map_eq_some_iff.1 z6
  simp only [Prod.mk.injEq] at gr
  obtain ⟨il,vu,zE⟩ := gr
  have hlen : n + 1 ≤ 140737488355328 := Nat.le_trans (Nat.le_mul_of_pos_right _ kR) hl
  rw [if_pos hw]
  obtain ⟨v1,w1,hr,hown,hg,_,cM⟩ := run_append_own_at (P := P) (W.alloc (.cells ys.toArray e)) base t o.type e i0 z size bytes ht hi il vu zE hz lA v n xs (HO.alloc _) ⟨W.heap.size,0,none⟩ 1 1 ys (by rw [hys]; simp)
    (by simpa using World.news_of_block (cs := ys.toArray) (t := e) (fr := (0,0)) (heap_alloc_new W (.cells ys.toArray e))) h1 (by simp only [maxLen]; omega) hl (by simp; omega)
  unfold Oper.wp execOp
  simp only [ho,resolve,invoke,builtin,Sem.run_bind,Sem.run_pure,Result.andThen_ok,List.map_toArray,List.map_cons,List.map_nil,hs,hx,hr]
  refine h v1 w1 hown ((HB.alloc j6 _).grown hg (by simp; omega) (dY HO)) (World.grownBy.trans (World.grownBy_alloc W _ _) hg) ?_
  rcases cM with cM | cM
  · exact .inl cM
  · exact .inr ⟨_,cM,by simp⟩
end
theorem LR {w : World} {base base' : Nat} {e : TypeId} {size n : Nat} {v : Value} {xs : List Value} (h : w.ownsRow base e size v n xs) (hb : base' ≤ base) : w.ownsRow base' e size v n xs := by
  obtain ⟨h1,h2⟩ := h
  refine ⟨h1,?_⟩
  rcases h2 with h2 | ⟨g,cap,cur,rfl,hg,r⟩
  · exact .inl h2
  · exact .inr ⟨g,cap,cur,rfl,Nat.le_trans hb hg,r⟩
section
variable {α : Type} {enc : α → Value} {d : α}
def vE (enc : α → Value) (xs : List α) : List Value := xs.map enc
def gI (d : α) (xs : List α) (i : Int) : α := xs.getD i.toNat d
theorem Dp (xs : List α) : (vE enc xs).length = xs.length := by simp [vE]
def CW (enc : α → Value) (d : α) (w : World) (A : Option Addr) (n : Nat) (xs : List α) : Prop:=
  xs.length = n ∧ n ≤ 9223372036854775807 ∧ (0 < n → ∃ ad,A = some ad ∧ ∀ j,j < n → w.cell? (ad.add j) = some (enc (xs.getD j d)))
theorem CW.at_ {w : World} {A : Option Addr} {n : Nat} {xs : List α} (h : CW enc d w A n xs) (i : Int) (h0 : 0 ≤ i) (h1 : i < n) : ∃ ad,A = some ad ∧ w.cell? (ad.add i.toNat) = some (enc (gI d xs i)) := by
  obtain ⟨ad,e,hc⟩ := h.2.2 (by omega)
  exact ⟨ad,e,hc _ (by omega)⟩
end
section
variable {α : Type} {P : Program} {ops : Array Oper} {rest : List Oper} {o : Oper} {a : Act} {Q : Exit → Act → World → Prop}
end
theorem aD {w : World} {g : Nat} {o : Obj} (h : w.heap[g]? = some o) (o' : Obj) : (w.alloc o').heap[g]? = some o := (Below.heap_alloc w o' g (fB h)).trans h
theorem aI {w : World} {g : Nat} {o : Obj} (h : w.heap[g]? = some o) : w.drew.heap[g]? = some o := h
theorem aH {w : World} {g : Nat} {o : Obj} (h : w.heap[g]? = some o) (n : Nat) : (w.drewN n).heap[g]? = some o := h
theorem ff {w w1 : World} {g : Nat} {o : Obj} (h : w.heap[g]? = some o) (hb : Below w.heap.size w w1) : w1.heap[g]? = some o := (hb.block g (fB h)).trans h
theorem Ve (w : World) (o : Obj) : (w.alloc o).heap[w.heap.size]? = some o := heap_alloc_new w o
section
variable {P : Program}
end
theorem Nr {w : World} {base n m c size : Nat} {e : TypeId} {A : Option Addr} {xs : List Value} (h : w.ownsRow base e size (.slice A m c) n xs) : m ≤ c := by
  rcases h.2 with ⟨he,_⟩ | ⟨g,cap,cur,he,_,_,Gs,_⟩
  · injection he with _ h2 h3
    omega
  · injection he with _ h2 h3
    omega
def gR {α : Type} (R : α → List Value → Prop) (e : TypeId) (size : Nat) (w : World) (base : Nat) (v : Value) (ps : List α) : Prop:=
  ∃ inner,w.ownsRow base e size v ps.length inner ∧ eG R size ps inner
section
variable {α : Type} {R R' : α → List Value → Prop} {e : TypeId} {size : Nat} {w w1 : World} {base : Nat} {v : Value} {ps : List α}
theorem gR.none_ (R : α → List Value → Prop) (e : TypeId) (size : Nat) (w : World) (base : Nat) : gR R e size w base (.slice none 0 0) [] := ⟨[],KD _ _ _ _,eG.none _ _⟩
theorem gR.iA (h : gR R e size w base v ps) (hR : ∀ p c,R p c → R' p c) : gR R' e size w base v ps := by
  obtain ⟨inner,ho,hr⟩ := h
  exact ⟨inner,ho,hr.iA hR⟩
theorem gR.reads (h : gR R e size w base v ps) : ∃ A c,v = .slice A ps.length c ∧ ps.length ≤ c ∧ ft R size w A ps.length ps := by
  obtain ⟨inner,ho,hr⟩ := h
  obtain ⟨A,c,rfl,hrow⟩ := G4 ho hr rfl
  exact ⟨A,c,rfl,Nr ho,hrow⟩
theorem gR.Qu (h : gR R e size w base v ps) {g : Nat} {t : TypeId} {cells : Array Value} (hb : w.heap[g]? = some (.cells cells t (0,0))) (ht : e ≠ t) : some g ≠ v.ownBlock := by
  obtain ⟨inner,ho,hr⟩ := h
  exact Bg ho hb ht
end
section
variable {P : Program} {ops : Array Oper} {rest : List Oper} {o : Oper} {a : Act} {Q : Exit → Act → World → Prop} {α : Type} {R : α → List Value → Prop}
end
section
variable {P : Program} {ops : Array Oper} {o : Oper} {a : Act} {Q : Exit → Act → World → Prop} {K : Act → World → Prop} {α : Type} {R : α → List Value → Prop}
end
theorem ft.Y3 {α : Type} {R : α → List Value → Prop} {size : Nat} {w : World} {ad : Addr} {n : Nat} {ps : List α} (h : ft R size w (some ad) n ps) :
    ∃ inner,eG R size ps inner ∧ ∀ j u,inner[j]? = some u → w.cell? (ad.add j) = some u := by
  have key : ∀ m,m ≤ ps.length → ∃ inner,eG R size (ps.take m) inner ∧ ∀ j u,inner[j]? = some u → w.cell? (ad.add j) = some u := by
    intro m
    induction m with
    | zero => exact fun _ => ⟨[],eG.none _ _,fun j u hu => by simp at hu⟩
    | succ m ih=>
      intro hm
      obtain ⟨inner,hr,hc⟩ := ih (by omega)
      obtain ⟨ad', he,hcell⟩ := h.2.2 (by have := h.1; omega)
      injection he with he
      subst he
      obtain ⟨c,Di,hp,Ey⟩ := hcell m _ (List.getElem?_eq_getElem (show m < ps.length by omega))
      refine ⟨inner ++ c,?_,fun j u hu => ?_⟩
      · rw [List.take_succ_eq_append_getElem (show m < ps.length by omega)]
        exact hr.snoc hp Di
      · have hil : inner.length = m * size := by rw [hr.1,List.length_take,Nat.min_eq_left (by omega)]
        rcases Nat.lt_or_ge j inner.length with hj | hj
        · rw [List.getElem?_append_left hj] at hu
          exact hc j u hu
        · rw [List.getElem?_append_right hj] at hu
          have := Ey (j - inner.length) u hu
          rwa [hil,Nat.add_sub_cancel' (by omega)] at this
  obtain ⟨inner,hr,hc⟩ := key ps.length (Nat.le_refl _)
  rw [List.take_length] at hr
  exact ⟨inner,hr,hc⟩
section
variable {α : Type} {P : Program}
end
section
variable {P : Program} {ops : Array Oper} {rest : List Oper} {o : Oper} {a : Act} {Q : Exit → Act → World → Prop}
end
structure Kd (α : Type) where
  sz : Nat
  E : List Nat
  K : World → α → List Value → Prop
  M : World → Nat → (Nat → Prop) → α → List Value → Prop
  eT : ∀ {w x cs},K w x cs → cs.length = sz
  eI : ∀ {w x cs},K w x cs → ∀ u ∈ cs,u.oneCell' = true
  dB : ∀ {w w1 : World} {x cs},Below w.heap.size w w1 → K w x cs → K w1 x cs
  dq : ∀ {w base ok x cs},M w base ok x cs → K w x cs
  cG : ∀ {w base ok ok' x cs},(∀ k,ok k → ok' k) → M w base ok x cs → M w base ok' x cs
  dc : ∀ {w : World} {base ok x cs},M w base ok x cs → M w base (fun k => ok k ∧ base ≤ k ∧ k < w.heap.size ∧ ∃ q,q ∈ E ∧ ∃ cells,w.heap[k]? = some (.cells cells q (0,0))) x cs
  dQ : ∀ {w w1 : World} {base ok x cs},(∀ k,ok k → w1.heap[k]? = w.heap[k]?) → M w base ok x cs → M w1 base ok x cs
  dA : ∀ {w base base' ok x cs},base' ≤ base → M w base ok x cs → M w base' ok x cs
theorem kv {w w1 : World} {base : Nat} {e : TypeId} {size n : Nat} {v : Value} {xs : List Value} (h : w.ownsRow base e size v n xs) (hm : ∀ k,v.ownBlock = some k → w1.heap[k]? = w.heap[k]?) : w1.ownsRow base e size v n xs := by
  obtain ⟨h1,h2⟩ := h
  refine ⟨h1,?_⟩
  rcases h2 with h2 | ⟨g,cap,cur,rfl,hg,hh,r⟩
  · exact .inl h2
  · exact .inr ⟨g,cap,cur,rfl,hg,(hm g (by simp [Value.ownBlock])).trans hh,r⟩
theorem Nq {w : World} {base : Nat} {e : TypeId} {size n : Nat} {v : Value} {xs : List Value} (h : w.ownsRow base e size v n xs) (k : Nat) (hk : v.ownBlock = some k) : ∃ cells,w.heap[k]? = some (.cells cells e (0,0)) := by
  rcases h.2 with ⟨rfl,_⟩ | ⟨g,cap,cur,rfl,hg,hh,r⟩
  · simp [Value.ownBlock] at hk
  · have : g = k := by simpa [Value.ownBlock] using hk
    subst this
    exact ⟨cur,hh⟩
namespace Kd
def C {α : Type} (d : Kd α) (w : World) (A : Option Addr) (n : Nat) (xs : List α) : Prop := ft (d.K w) d.sz w A n xs
def R {α : Type} (d : Kd α) (e : Nat) (w : World) (base : Nat) (ok : Nat → Prop) (v : Value) (xs : List α) : Prop:=
  (∀ k,v.ownBlock = some k → ok k) ∧ gR (d.M w base (fun k => ok k ∧ some k ≠ v.ownBlock)) e d.sz w base v xs
section
variable {α : Type} {d : Kd α} {e : Nat} {w w1 : World} {base : Nat} {ok ok' : Nat → Prop} {v : Value} {xs : List α}
theorem bD {A : Option Addr} {n : Nat} (h : d.C w A n xs) (hb : Below w.heap.size w w1) : d.C w1 A n xs := ft.iA h hb (fun _ _ hp => d.dB hb hp)
theorem Ax (d : Kd α) (e : Nat) (w : World) (base : Nat) (ok : Nat → Prop) : d.R e w base ok (.slice none 0 0) [] := ⟨fun k hk => by simp [Value.ownBlock] at hk,gR.none_ _ _ _ _ _⟩
theorem fC (h : d.R e w base ok v xs) (hok : ∀ k,ok k → ok' k) : d.R e w base ok' v xs := ⟨fun k hk => hok k (h.1 k hk),h.2.iA (fun _ _ hp => d.cG (fun k hk => ⟨hok k hk.1,hk.2⟩) hp)⟩
theorem lQ (h : d.R e w base ok v xs) : d.R e w base (fun k => ok k ∧ base ≤ k ∧ k < w.heap.size ∧ ∃ q,q ∈ e :: d.E ∧ ∃ cells,w.heap[k]? = some (.cells cells q (0,0))) v xs := by
  obtain ⟨h0,inner,ho,hr⟩ := h
  refine ⟨fun k hk => ?_,inner,ho,hr.iA (fun _ _ hp => d.cG (fun k hk => ?_) (d.dc hp))⟩
  · obtain ⟨cells,hc⟩ := Nq ho k hk
    exact ⟨h0 k hk,dY ho k hk,gq ho k hk,e,List.mem_cons_self,cells,hc⟩
  · obtain ⟨⟨h1,h2⟩,h3,h4,q,hq,hc⟩ := hk
    exact ⟨⟨h1,h3,h4,q,List.mem_cons_of_mem _ hq,hc⟩,h2⟩
theorem JW (h : d.R e w base ok v xs) (hm : ∀ k,ok k → w1.heap[k]? = w.heap[k]?) : d.R e w1 base ok v xs := by
  obtain ⟨h0,inner,ho,hr⟩ := h
  exact ⟨h0,inner,kv ho (fun k hk => hm k (h0 k hk)),hr.iA (fun _ _ hp => d.dQ (fun k hk => hm k hk.1) hp)⟩
theorem kB {base' : Nat} (h : d.R e w base ok v xs) (hb : base' ≤ base) : d.R e w base' ok v xs := by
  obtain ⟨h0,inner,ho,hr⟩ := h
  exact ⟨h0,inner,LR ho hb,hr.iA (fun _ _ hp => d.dA hb hp)⟩
theorem Pt (h : d.R e w base ok v xs) (hm : ∀ k,ok k → k < w.heap.size → w1.heap[k]? = w.heap[k]?) : d.R e w1 base ok v xs:=
  fC (JW (lQ h) (fun k hk => hm k hk.1 hk.2.2.1)) (fun _ hk => hk.1)
theorem ag6 {x : α} {cs : List Value} (h : d.M w base ok x cs) (hm : ∀ k,ok k → k < w.heap.size → w1.heap[k]? = w.heap[k]?) : d.M w1 base ok x cs:=
  d.cG (fun _ hk => hk.1) (d.dQ (fun k hk => hm k hk.1 hk.2.2.1) (d.dc h))
theorem zO (h : d.R e w base ok v xs) (hb : Below w.heap.size w w1) : d.R e w1 base ok v xs := Pt h (fun k _ hk => hb.block k hk)
theorem gx (h : d.R e w base ok v xs) {p : Addr} (hok : ∀ k,ok k → k ≠ p.block) (u : Value) : d.R e (w.setCell p u) base ok v xs := Pt h (fun k ho _ => Below.heap_setCell w p u k (hok k ho))
theorem F5 (h : d.R e w base ok v xs) {g t : Nat} {cells : Array Value} (hb : w.heap[g]? = some (.cells cells t (0,0))) (ht : ∀ q,q ∈ e :: d.E → q ≠ t) : d.R e w base (fun k => ok k ∧ k ≠ g) v xs:=
  fC (lQ h) (fun k hk => ⟨hk.1,by
    obtain ⟨_,_,_,q,hq,cells', hc⟩ := hk
    rintro rfl
    rw [hc] at hb
    injection hb with hb
    injection hb with _ hb
    exact ht q hq hb⟩)
theorem CX (h : d.R e w base ok v xs) : ∃ A c,v = .slice A xs.length c ∧ xs.length ≤ c ∧ d.C w A xs.length xs := by
  obtain ⟨A,c,he,hl,hr⟩ := gR.reads h.2
  exact ⟨A,c,he,hl,hr.iA (Below.refl _ _) (fun _ _ hp => d.dq hp)⟩
theorem kA (h : d.R e w base ok v xs) : ∃ A c,v = .slice A xs.length c := by
  obtain ⟨A,c,he,_⟩ := CX h
  exact ⟨A,c,he⟩
theorem T7 (h : d.R e w base ok v xs) : ∃ inner,w.ownsRow base e d.sz v xs.length inner := by
  obtain ⟨_,inner,ho,_⟩ := h
  exact ⟨inner,ho⟩
theorem Sz (h : d.R e w base ok v xs) {g t : Nat} {cells : Array Value} (hb : w.heap[g]? = some (.cells cells t (0,0))) (ht : e ≠ t) : some g ≠ v.ownBlock := gR.Qu h.2 hb ht
end
def scalar {α : Type} (enc : α → Value) (h1 : ∀ x,(enc x).oneCell' = true) : Kd α where
  sz := 1
  E := []
  K := fun _ x cs => cs = [enc x]
  M := fun _ _ _ x cs => cs = [enc x]
  eT := fun h => by rw [h]; rfl
  eI := fun h u hu => by
    rw [h] at hu
    rw [List.mem_singleton.1 hu]
    exact h1 _
  dB := fun _ h => h
  dq := fun h => h
  cG := fun _ h => h
  dc := fun h => h
  dQ := fun _ h => h
  dA := fun _ h => h
def int (k : IntKind) : Kd Int := scalar (Value.int k) (fun _ => rfl)
def bool : Kd Bool := scalar Value.bool (fun _ => rfl)
def string : Kd ByteArray := scalar Value.string (fun _ => rfl)
def slice {α : Type} (e : Nat) (d : Kd α) : Kd (List α) where
  sz := 1
  E := e :: d.E
  K := fun w xs cs => ∃ A c,cs = [.slice A xs.length c] ∧ xs.length ≤ c ∧ d.C w A xs.length xs
  M := fun w base ok xs cs => ∃ v,cs = [v] ∧ d.R e w base ok v xs
  eT := by
    rintro w x cs ⟨A,c,rfl,_⟩
    rfl
  eI := by
    rintro w x cs ⟨A,c,rfl,_⟩ u hu
    rw [List.mem_singleton.1 hu]
    rfl
  dB := by
    rintro w w1 x cs hb ⟨A,c,rfl,hl,hr⟩
    exact ⟨A,c,rfl,hl,bD hr hb⟩
  dq := by
    rintro w base ok x cs ⟨v,rfl,h⟩
    obtain ⟨A,c,rfl,hl,hr⟩ := CX h
    exact ⟨A,c,rfl,hl,hr⟩
  cG := by
    rintro w base ok ok' x cs hok ⟨v,rfl,h⟩
    exact ⟨v,rfl,fC h hok⟩
  dc := by
    rintro w base ok x cs ⟨v,rfl,h⟩
    exact ⟨v,rfl,lQ h⟩
  dQ := by
    rintro w w1 base ok x cs hm ⟨v,rfl,h⟩
    exact ⟨v,rfl,JW h hm⟩
  dA := by
    rintro w base base' ok x cs hb ⟨v,rfl,h⟩
    exact ⟨v,rfl,kB h hb⟩
def pair {α β : Type} (a : Kd α) (b : Kd β) : Kd (α × β) where
  sz := a.sz + b.sz
  E := a.E ++ b.E
  K := fun w x cs => ∃ c0 c1,cs = c0 ++ c1 ∧ a.K w x.1 c0 ∧ b.K w x.2 c1
  M := fun w base ok x cs => ∃ c0 c1,cs = c0 ++ c1 ∧ a.M w base ok x.1 c0 ∧ b.M w base ok x.2 c1
  eT := by
    rintro w x cs ⟨c0,c1,rfl,h0,h1⟩
    rw [List.length_append,a.eT h0,b.eT h1]
  eI := by
    rintro w x cs ⟨c0,c1,rfl,h0,h1⟩ u hu
    rcases List.mem_append.1 hu with hu | hu
    · exact a.eI h0 u hu
    · exact b.eI h1 u hu
  dB := by
    rintro w w1 x cs hb ⟨c0,c1,rfl,h0,h1⟩
    exact ⟨c0,c1,rfl,a.dB hb h0,b.dB hb h1⟩
  dq := by
    rintro w base ok x cs ⟨c0,c1,rfl,h0,h1⟩
    exact ⟨c0,c1,rfl,a.dq h0,b.dq h1⟩
  cG := by
    rintro w base ok ok' x cs hok ⟨c0,c1,rfl,h0,h1⟩
    exact ⟨c0,c1,rfl,a.cG hok h0,b.cG hok h1⟩
  dc := by
    rintro w base ok x cs ⟨c0,c1,rfl,h0,h1⟩
    refine ⟨c0,c1,rfl,a.cG ?_ (a.dc h0),b.cG ?_ (b.dc h1)⟩
    · rintro k ⟨h2,h3,h4,q,hq,hc⟩
      exact ⟨h2,h3,h4,q,List.mem_append_left _ hq,hc⟩
    · rintro k ⟨h2,h3,h4,q,hq,hc⟩
      exact ⟨h2,h3,h4,q,List.mem_append_right _ hq,hc⟩
  dQ := by
    rintro w w1 base ok x cs hm ⟨c0,c1,rfl,h0,h1⟩
    exact ⟨c0,c1,rfl,a.dQ hm h0,b.dQ hm h1⟩
  dA := by
    rintro w base base' ok x cs hb ⟨c0,c1,rfl,h0,h1⟩
    exact ⟨c0,c1,rfl,a.dA hb h0,b.dA hb h1⟩
def Tc {α β : Type} (d : Kd α) (f : β → α) : Kd β where
  sz := d.sz
  E := d.E
  K := fun w x cs => d.K w (f x) cs
  M := fun w base ok x cs => d.M w base ok (f x) cs
  eT := d.eT
  eI := d.eI
  dB := d.dB
  dq := d.dq
  cG := d.cG
  dc := d.dc
  dQ := d.dQ
  dA := d.dA
def bot {α : Type} (sz : Nat) (E : List Nat) : Kd α where
  sz := sz
  E := E
  K := fun _ _ _ => False
  M := fun _ _ _ _ _ => False
  eT := fun h => h.elim
  eI := fun h => h.elim
  dB := fun _ h => h
  dq := fun h => h
  cG := fun _ h => h
  dc := fun h => h
  dQ := fun _ h => h
  dA := fun _ h => h
def upto {α : Type} (F : Kd α → Kd α) (sz : Nat) (E : List Nat) : Nat → Kd α
  | 0 => bot sz E
  | n + 1 => F (upto F sz E n)
def fix {α : Type} (F : Kd α → Kd α) (sz : Nat) (E : List Nat) (hs : ∀ n,(upto F sz E n).sz = sz) (hE : ∀ n q,q ∈ (upto F sz E n).E → q ∈ E) : Kd α where
  sz := sz
  E := E
  K := fun w x cs => ∃ n,(upto F sz E n).K w x cs
  M := fun w base ok x cs => ∃ n,(upto F sz E n).M w base ok x cs
  eT := by
    rintro w x cs ⟨n,h⟩
    rw [(upto F sz E n).eT h,hs n]
  eI := by
    rintro w x cs ⟨n,h⟩
    exact (upto F sz E n).eI h
  dB := by
    rintro w w1 x cs hb ⟨n,h⟩
    exact ⟨n,(upto F sz E n).dB hb h⟩
  dq := by
    rintro w base ok x cs ⟨n,h⟩
    exact ⟨n,(upto F sz E n).dq h⟩
  cG := by
    rintro w base ok ok' x cs hok ⟨n,h⟩
    exact ⟨n,(upto F sz E n).cG hok h⟩
  dc := by
    rintro w base ok x cs ⟨n,h⟩
    refine ⟨n,(upto F sz E n).cG ?_ ((upto F sz E n).dc h)⟩
    rintro k ⟨h2,h3,h4,q,hq,hc⟩
    exact ⟨h2,h3,h4,q,hE n q hq,hc⟩
  dQ := by
    rintro w w1 base ok x cs hm ⟨n,h⟩
    exact ⟨n,(upto F sz E n).dQ hm h⟩
  dA := by
    rintro w base base' ok x cs hb ⟨n,h⟩
    exact ⟨n,(upto F sz E n).dA hb h⟩
theorem Uz {α : Type} {d : Kd α} {w : World} {A : Option Addr} {n : Nat} {xs : List α} (h : d.C w A n xs) (z : α) (i : Int) (h0 : 0 ≤ i) (h1 : i < n) :
    ∃ ad c,A = some ad ∧ c.length = d.sz ∧ d.K w (xs.getD i.toNat z) c ∧ ∀ j u,c[j]? = some u → w.cell? (ad.add (i.toNat * d.sz + j)) = some u := ft.ae6 h z i h0 h1
theorem E5 {α : Type} {d : Kd α} {e base : Nat} {ok vq : Nat → Prop} {W w1 : World} {v v1 : Value} {xs : List α} {p : α} {inner cs : List Value} (h0 : ∀ k,v.ownBlock = some k → ok k) (hr : eG (d.M W base (fun k => ok k ∧ some k ≠ v.ownBlock)) d.sz xs inner) (hp : d.M W base vq p cs) (Jc : ∀ k,vq k → ok k ∧ some k ≠ v.ownBlock) (BA : ∀ k,W.heap.size ≤ k → ok k)
    (hown : w1.ownsRow base e d.sz v1 (xs.length + 1) (inner ++ cs)) (hg : W.grownBy w1 v.ownBlock) (cM : v1.ownBlock = v.ownBlock ∨ ∃ b,v1.ownBlock = some b ∧ W.heap.size ≤ b) : d.R e w1 base ok v1 (xs ++ [p]) := by
  have hne : ∀ k,some k ≠ v.ownBlock → k < W.heap.size → some k ≠ v1.ownBlock := by
    intro k hk hlt
    rcases cM with cM | ⟨b,hb,hle⟩
    · rw [cM]; exact hk
    · rw [hb]
      intro he
      injection he with he
      omega
  have step : ∀ {q : α} {c : List Value} {o : Nat → Prop},d.M W base o q c → (∀ k,o k → ok k ∧ some k ≠ v.ownBlock) → d.M w1 base (fun k => ok k ∧ some k ≠ v1.ownBlock) q c := by
    intro q c o hq ho
    have h1 := d.dQ (w1 := w1) (fun k hk => hg.block k hk.2.2.1 (ho k hk.1).2) (d.dc hq)
    exact d.cG (fun k hk => ⟨(ho k hk.1).1,hne k (ho k hk.1).2 hk.2.2.1⟩) h1
  refine ⟨fun k hk => ?_,inner ++ cs,by rw [List.length_append,List.length_singleton]; exact hown,?_⟩
  · rcases cM with cM | ⟨b,hb,hle⟩
    · exact h0 k (cM ▸ hk)
    · rw [hb] at hk
      injection hk with hk
      exact BA k (by omega)
  · exact (hr.iA (fun _ _ hq => step hq (fun _ hk => hk))).snoc (step hp Jc) (d.eT (d.dq hp))
section
variable {P : Program} {ops : Array Oper} {rest : List Oper} {o : Oper} {a : Act} {Q : Exit → Act → World → Prop} {α : Type}
theorem vH (d : Kd α) {w0 W : World} (base : Nat) (Ji : o.guard = none) (s x : Operand) (t e : TypeId) (z : Value) (bytes : Nat)
    (ho : o.op = .call { callee := .builtin .append,args := #[s,x],argTypes := #[t,t] })
    (ht : P.underlying t = some (.slice e)) (z6 : (P.info? e).map (fun i => (i.zero,i.size,i.bytes)) = some (some z,d.sz,bytes)) (hz : z.cells.size = d.sz) (lA : 0 < d.sz) (kR : 0 < bytes)
    (v : Value) (xs : List α) (p : α) (cs : List Value) (ok vq : Nat → Prop) (hs : a.eval s = v) (hx : a.eval x = .slice (some ⟨W.heap.size,0,none⟩) 1 1) (hp : d.M W base vq p cs) (Jc : ∀ k,vq k → ok k ∧ some k ≠ v.ownBlock) (BA : ∀ k,W.heap.size ≤ k → ok k)
    (HO : d.R e W base ok v xs) (HB : Below base w0 W) (j6 : base ≤ W.heap.size) (hl : (xs.length + 1) * bytes ≤ 140737488355328)
    (h : ∀ v1 w1,d.R e w1 base ok v1 (xs ++ [p]) → Below base w0 w1 → W.grownBy w1 v.ownBlock → (v1.ownBlock = v.ownBlock ∨ ∃ b,v1.ownBlock = some b ∧ W.heap.size ≤ b) → wpList P ops Q rest (a.put o.dst v1) w1) :
    wpList P ops Q (o :: rest) a (W.alloc (.cells cs.toArray e)) := by
  obtain ⟨h0,inner,hown,hr⟩ := HO
  refine kN base Ji s x t e z d.sz bytes ho ht z6 hz lA kR v xs.length inner cs hs hx (d.eT (d.dq hp)) (d.eI (d.dq hp)) hown HB j6 hl ?_
  intro v1 w1 LY hb1 fM jq
  exact h v1 w1 (E5 h0 hr hp Jc BA LY fM jq) hb1 fM jq
end
section
variable {P : Program} {ops : Array Oper} {o : Oper} {a : Act} {Q : Exit → Act → World → Prop} {Kc : Act → World → Prop} {α : Type}
theorem G5 (d : Kd α) {w0 W : World} (base : Nat) (hw : Region.wanted o (yielded ops a.tmps) = true) (s x : Operand) (t e : TypeId) (z : Value) (bytes : Nat)
    (ho : o.op = .call { callee := .builtin .append,args := #[s,x],argTypes := #[t,t] })
    (ht : P.underlying t = some (.slice e)) (z6 : (P.info? e).map (fun i => (i.zero,i.size,i.bytes)) = some (some z,d.sz,bytes)) (hz : z.cells.size = d.sz) (lA : 0 < d.sz) (kR : 0 < bytes)
    (v : Value) (xs : List α) (p : α) (cs : List Value) (ok vq : Nat → Prop) (hs : a.eval s = v) (hx : a.eval x = .slice (some ⟨W.heap.size,0,none⟩) 1 1) (hp : d.M W base vq p cs) (Jc : ∀ k,vq k → ok k ∧ some k ≠ v.ownBlock) (BA : ∀ k,W.heap.size ≤ k → ok k)
    (HO : d.R e W base ok v xs) (HB : Below base w0 W) (j6 : base ≤ W.heap.size) (hl : (xs.length + 1) * bytes ≤ 140737488355328)
    (h : ∀ v1 w1,d.R e w1 base ok v1 (xs ++ [p]) → Below base w0 w1 → W.grownBy w1 v.ownBlock → (v1.ownBlock = v.ownBlock ∨ ∃ b,v1.ownBlock = some b ∧ W.heap.size ≤ b) → Kc (a.put o.dst v1) w1) :
    if Region.wanted o (yielded ops a.tmps) = true then Oper.wp P o a (W.alloc (.cells cs.toArray e)) Kc Q else Kc (a.put o.dst undef) (W.alloc (.cells cs.toArray e)) := by
  obtain ⟨h0,inner,hown,hr⟩ := HO
  refine C6 base hw s x t e z d.sz bytes ho ht z6 hz lA kR v xs.length inner cs hs hx (d.eT (d.dq hp)) (d.eI (d.dq hp)) hown HB j6 hl ?_
  intro v1 w1 LY hb1 fM jq
  exact h v1 w1 (E5 h0 hr hp Jc BA LY fM jq) hb1 fM jq
end
theorem J8 {α : Type} {enc : α → Value} (xs : List α) : eG (fun (x : α) (cs : List Value) => cs = [enc x]) 1 xs (vE enc xs) := by
  refine ⟨by simp [vE],fun j p hj => ?_⟩
  obtain ⟨hl,hp⟩ := List.getElem?_eq_some_iff.1 hj
  have hl' : j < (vE enc xs).length := by rw [Dp]; exact hl
  rw [Nat.mul_one,List.drop_eq_getElem_cons hl']
  simp [vE,hp]
theorem Sy {α : Type} {enc : α → Value} {h1 : ∀ x,(enc x).oneCell' = true} {e : Nat} {w : World} {base : Nat} {ok : Nat → Prop} {v : Value} {xs : List α} (ho : w.ownsRow base e 1 v xs.length (vE enc xs)) (hok : ∀ k,v.ownBlock = some k → ok k) : (scalar enc h1).R e w base ok v xs := ⟨hok,vE enc xs,ho,J8 xs⟩
theorem Qn {α : Type} {enc : α → Value} {h1 : ∀ x,(enc x).oneCell' = true} {e : Nat} {w : World} {base : Nat} {ok : Nat → Prop} {v : Value} {xs : List α} (h : (scalar enc h1).R e w base ok v xs) : w.ownsRow base e 1 v xs.length (vE enc xs) := by
  obtain ⟨_,inner,ho,hr⟩ := h
  have : inner = vE enc xs := by
    apply List.ext_getElem?
    intro j
    rcases Nat.lt_or_ge j xs.length with hj | hj
    · have h2 := hr.2 j _ (List.getElem?_eq_getElem hj)
      have hl : j < inner.length := by have := hr.1; simp [scalar] at this; omega
      have h3 : (inner.drop (j * 1)).take 1 = [enc xs[j]] := h2
      rw [Nat.mul_one,List.drop_eq_getElem_cons hl] at h3
      have h4 : inner[j] = enc xs[j] := by
        have h5 := congrArg List.head? h3
        rw [List.take_succ_cons] at h5
        exact Option.some.inj h5
      rw [List.getElem?_eq_getElem hl,h4]
      simp [vE,List.getElem?_eq_getElem hj]
    · have h3 : inner.length = xs.length := by have := hr.1; simp [scalar] at this; omega
      rw [List.getElem?_eq_none (by omega),List.getElem?_eq_none (by rw [Dp]; omega)]
  rw [← this]
  exact ho
theorem LO {α : Type} {enc : α → Value} {d : α} {h1 : ∀ x,(enc x).oneCell' = true} {w : World} {A : Option Addr} {n : Nat} {xs : List α} (h : (scalar enc h1).C w A n xs) : CW enc d w A n xs := by
  refine ⟨h.1,h.2.1,fun hn => ?_⟩
  obtain ⟨ad,e,hc⟩ := h.2.2 hn
  refine ⟨ad,e,fun j hj => ?_⟩
  have hl : j < xs.length := by have := h.1; omega
  obtain ⟨c,_,hK,hcell⟩ := hc j _ (List.getElem?_eq_getElem hl)
  have hK' : c = [enc xs[j]] := hK
  subst hK'
  have := hcell 0 _ rfl
  simpa [scalar,List.getD_eq_getElem?_getD,List.getElem?_eq_getElem hl] using this
end Kd
namespace Kd
structure ie {α β : Type} (F : Kd α → Kd β) : Prop where
  sz : ∀ d d' : Kd α,d.sz = d'.sz → (F d).sz = (F d').sz
  K : ∀ d d' : Kd α,d.sz = d'.sz → (∀ w x cs,d.K w x cs → d'.K w x cs) → ∀ w x cs,(F d).K w x cs → (F d').K w x cs
  M : ∀ d d' : Kd α,d.sz = d'.sz → (∀ w base ok x cs,d.M w base ok x cs → d'.M w base ok x cs) → ∀ w base ok x cs,(F d).M w base ok x cs → (F d').M w base ok x cs
theorem jg {α β : Type} (k : Kd β) : ie (fun _ : Kd α => k) := ⟨fun _ _ _ => rfl,fun _ _ _ _ _ _ _ h => h,fun _ _ _ _ _ _ _ _ _ h => h⟩
theorem KH {α : Type} : ie (fun d : Kd α => d) := ⟨fun _ _ h => h,fun _ _ _ h => h,fun _ _ _ h => h⟩
theorem ME {α : Type} {d d' : Kd α} (hs : d.sz = d'.sz) (h : ∀ w x cs,d.K w x cs → d'.K w x cs) {w : World} {A : Option Addr} {n : Nat} {xs : List α} (hc : d.C w A n xs) : d'.C w A n xs := by
  unfold C at hc ⊢
  rw [← hs]
  exact hc.iA (Below.refl _ _) (fun _ _ hp => h _ _ _ hp)
theorem T8 {α : Type} {d d' : Kd α} (hs : d.sz = d'.sz) (h : ∀ w base ok x cs,d.M w base ok x cs → d'.M w base ok x cs) {e : Nat} {w : World} {base : Nat} {ok : Nat → Prop} {v : Value} {xs : List α} (hr : d.R e w base ok v xs) : d'.R e w base ok v xs := by
  unfold R at hr ⊢
  rw [← hs]
  exact ⟨hr.1,hr.2.iA (fun _ _ hp => h _ _ _ _ _ hp)⟩
theorem D9 {α β : Type} (e : Nat) {G : Kd α → Kd β} (hG : ie G) : ie (fun d => slice e (G d)) := by
  refine ⟨fun _ _ _ => rfl,?_,?_⟩
  · rintro d d' hs h w x cs ⟨A,c,rfl,hl,hr⟩
    exact ⟨A,c,rfl,hl,ME (hG.sz d d' hs) (hG.K d d' hs h) hr⟩
  · rintro d d' hs h w base ok x cs ⟨v,rfl,hr⟩
    exact ⟨v,rfl,T8 (hG.sz d d' hs) (hG.M d d' hs h) hr⟩
theorem jL {α β γ : Type} {G : Kd α → Kd β} {H : Kd α → Kd γ} (hG : ie G) (hH : ie H) : ie (fun d => pair (G d) (H d)) := by
  refine ⟨fun d d' hs => ?_,?_,?_⟩
  · show (G d).sz + (H d).sz = (G d').sz + (H d').sz
    rw [hG.sz d d' hs,hH.sz d d' hs]
  · rintro d d' hs h w x cs ⟨c0,c1,rfl,h0,h1⟩
    exact ⟨c0,c1,rfl,hG.K d d' hs h _ _ _ h0,hH.K d d' hs h _ _ _ h1⟩
  · rintro d d' hs h w base ok x cs ⟨c0,c1,rfl,h0,h1⟩
    exact ⟨c0,c1,rfl,hG.M d d' hs h _ _ _ _ _ h0,hH.M d d' hs h _ _ _ _ _ h1⟩
theorem Iw {α β γ : Type} {G : Kd α → Kd β} (f : γ → β) (hG : ie G) : ie (fun d => Tc (G d) f):=
  ⟨hG.sz,fun d d' hs h w x cs => hG.K d d' hs h w (f x) cs,fun d d' hs h w base ok x cs => hG.M d d' hs h w base ok (f x) cs⟩
def Sub {α β : Type} (F : Kd α → Kd β) (E : List Nat) : Prop := ∀ d : Kd α,(∀ q,q ∈ d.E → q ∈ E) → ∀ q,q ∈ (F d).E → q ∈ E
theorem sub_const {α β : Type} {E : List Nat} (k : Kd β) (h : ∀ q,q ∈ k.E → q ∈ E) : Sub (fun _ : Kd α => k) E := fun _ _ => h
theorem MV {α : Type} {E : List Nat} : Sub (fun d : Kd α => d) E := fun _ h => h
theorem Gb {α β : Type} {E : List Nat} (e : Nat) {G : Kd α → Kd β} (he : e ∈ E) (hG : Sub G E) : Sub (fun d => slice e (G d)) E := fun d h q hq => by
  rcases List.mem_cons.1 hq with rfl | hq
  · exact he
  · exact hG d h q hq
theorem ku {α β γ : Type} {E : List Nat} {G : Kd α → Kd β} {H : Kd α → Kd γ} (hG : Sub G E) (hH : Sub H E) : Sub (fun d => pair (G d) (H d)) E := fun d h q hq => by
  rcases List.mem_append.1 hq with hq | hq
  · exact hG d h q hq
  · exact hH d h q hq
theorem Kt {α β γ : Type} {E : List Nat} {G : Kd α → Kd β} (f : γ → β) (hG : Sub G E) : Sub (fun d => Tc (G d) f) E := hG
theorem H8 {α : Type} {F : Kd α → Kd α} {sz : Nat} {E : List Nat} (h : Sub F E) : ∀ n q,q ∈ (upto F sz E n).E → q ∈ E
  | 0,_,hq => hq
  | n + 1,q,hq => h _ (H8 h n) q hq
theorem Ko {α : Type} {F : Kd α → Kd α} {sz : Nat} {E : List Nat} (h : ∀ d : Kd α,(F d).sz = sz) : ∀ n,(upto F sz E n).sz = sz
  | 0 => rfl
  | _ + 1 => h _
section
variable {α : Type} {F : Kd α → Kd α} {sz : Nat} {E : List Nat} {hs : ∀ n,(upto F sz E n).sz = sz} {hE : ∀ n q,q ∈ (upto F sz E n).E → q ∈ E}
theorem MQ (hm : ie F) (hs : ∀ n,(upto F sz E n).sz = sz) : ∀ n {w x cs},(upto F sz E n).K w x cs → (upto F sz E (n + 1)).K w x cs
  | 0,_,_,_,h => h.elim
  | n + 1,_,_,_,h => hm.K _ _ (by rw [hs n,hs (n + 1)]) (fun _ _ _ hk => MQ hm hs n hk) _ _ _ h
theorem MP (hm : ie F) (hs : ∀ n,(upto F sz E n).sz = sz) : ∀ n {w base ok x cs},(upto F sz E n).M w base ok x cs → (upto F sz E (n + 1)).M w base ok x cs
  | 0,_,_,_,_,_,h => h.elim
  | n + 1,_,_,_,_,_,h => hm.M _ _ (by rw [hs n,hs (n + 1)]) (fun _ _ _ _ _ hk => MP hm hs n hk) _ _ _ _ _ h
theorem Ga (hm : ie F) (hs : ∀ n,(upto F sz E n).sz = sz) {n m : Nat} (zH : n ≤ m) {w x cs} (h : (upto F sz E n).K w x cs) : (upto F sz E m).K w x cs := by
  obtain ⟨j,rfl⟩ := Nat.exists_eq_add_of_le zH
  induction j with
  | zero => exact h
  | succ j ih => exact MQ hm hs _ (ih (by omega))
theorem F' (hm : ie F) (hs : ∀ n,(upto F sz E n).sz = sz) {n m : Nat} (zH : n ≤ m) {w base ok x cs} (h : (upto F sz E n).M w base ok x cs) : (upto F sz E m).M w base ok x cs := by
  obtain ⟨j,rfl⟩ := Nat.exists_eq_add_of_le zH
  induction j with
  | zero => exact h
  | succ j ih => exact MP hm hs _ (ih (by omega))
theorem TA {n : Nat} {w : World} {A : Option Addr} {m : Nat} {xs : List α} (h : (upto F sz E n).C w A m xs) : (fix F sz E hs hE).C w A m xs := ME (d' := fix F sz E hs hE) (hs n) (fun w x cs hp => (⟨n,hp⟩ : ∃ n,(upto F sz E n).K w x cs)) h
theorem bounded {P : Nat → Nat → Prop} (hP : ∀ n m j,n ≤ m → P n j → P m j) : ∀ m,(∀ j,j < m → ∃ n,P n j) → ∃ N,∀ j,j < m → P N j
  | 0,_ => ⟨0,fun j hj => absurd hj (Nat.not_lt_zero j)⟩
  | m + 1,h => by
    obtain ⟨N,hN⟩ := bounded hP m (fun j hj => h j (by omega))
    obtain ⟨n,hn⟩ := h m (by omega)
    refine ⟨max N n,fun j hj => ?_⟩
    rcases Nat.lt_or_ge j m with Tp | Tp
    · exact hP N _ j (Nat.le_max_left _ _) (hN j Tp)
    · have : j = m := by omega
      subst this
      exact hP n _ j (Nat.le_max_right _ _) hn
theorem Im {α : Type} {R : Nat → α → List Value → Prop} (hR : ∀ n m p c,n ≤ m → R n p c → R m p c) {size : Nat} {ps : List α} {cs : List Value} (h : eG (fun p c => ∃ n,R n p c) size ps cs) : ∃ N,eG (R N) size ps cs := by
  obtain ⟨N,hN⟩ := bounded (P := fun n j => ∀ p,ps[j]? = some p → R n p ((cs.drop (j * size)).take size)) (fun n m j zH hp p hj => hR n m p _ zH (hp p hj)) ps.length
    (fun j hj => by
      obtain ⟨n,hn⟩ := h.2 j _ (List.getElem?_eq_getElem hj)
      refine ⟨n,fun p hp => ?_⟩
      rw [List.getElem?_eq_getElem hj] at hp
      injection hp with hp
      rw [← hp]
      exact hn)
  exact ⟨N,h.1,fun j p hj => hN j (List.getElem?_eq_some_iff.1 hj).1 p hj⟩
theorem L8 (hm : ie F) {e : Nat} {w : World} {base : Nat} {ok : Nat → Prop} {v : Value} {xs : List α} (h : (fix F sz E hs hE).R e w base ok v xs) : ∃ n,(upto F sz E n).R e w base ok v xs := by
  obtain ⟨h0,inner,ho,hr⟩ := h
  obtain ⟨N,hN⟩ := Im (R := fun n p c => (upto F sz E n).M w base (fun k => ok k ∧ some k ≠ v.ownBlock) p c) (fun n m p c zH hp => F' hm hs zH hp) hr
  refine ⟨N,h0,inner,?_,?_⟩
  · rw [hs N]; exact ho
  · rw [hs N]; exact hN
theorem L9 (hm : ie F) {w : World} {A : Option Addr} {m : Nat} {xs : List α} (h : (fix F sz E hs hE).C w A m xs) : ∃ n,(upto F sz E n).C w A m xs := by
  rcases Nat.eq_zero_or_pos m with hz | Bu
  · subst hz
    exact ⟨0,h.1,h.2.1,fun hp => absurd hp (Nat.lt_irrefl 0)⟩
  · obtain ⟨ad,e,hc⟩ := h.2.2 Bu
    obtain ⟨N,hN⟩ := bounded (P := fun n j => ∀ p,xs[j]? = some p → ∃ c,c.length = sz ∧ (upto F sz E n).K w p c ∧ ∀ i u,c[i]? = some u → w.cell? (ad.add (j * sz + i)) = some u)
      (fun n n' j zH hp p hj => by
        obtain ⟨c,h1,h2,h3⟩ := hp p hj
        exact ⟨c,h1,Ga hm hs zH h2,h3⟩) xs.length
      (fun j hj => by
        obtain ⟨c,h1,⟨n,h2⟩,h3⟩ := hc j _ (List.getElem?_eq_getElem hj)
        refine ⟨n,fun p hp => ?_⟩
        rw [List.getElem?_eq_getElem hj] at hp
        injection hp with hp
        rw [← hp]
        exact ⟨c,h1,h2,h3⟩)
    refine ⟨N,h.1,h.2.1,fun _ => ⟨ad,e,fun j p hj => ?_⟩⟩
    rw [hs N]
    exact hN j (List.getElem?_eq_some_iff.1 hj).1 p hj
theorem MO (hm : ie F) (hs : ∀ n,(upto F sz E n).sz = sz) {n m : Nat} (zH : n ≤ m) {e : Nat} {w : World} {base : Nat} {ok : Nat → Prop} {v : Value} {xs : List α} (h : (upto F sz E n).R e w base ok v xs) : (upto F sz E m).R e w base ok v xs := T8 (by rw [hs n,hs m]) (fun _ _ _ _ _ hp => F' hm hs zH hp) h
theorem MR (hm : ie F) (hs : ∀ n,(upto F sz E n).sz = sz) {n m : Nat} (zH : n ≤ m) {w : World} {A : Option Addr} {l : Nat} {xs : List α} (h : (upto F sz E n).C w A l xs) : (upto F sz E m).C w A l xs := ME (by rw [hs n,hs m]) (fun _ _ _ hp => Ga hm hs zH hp) h
end
end Kd
namespace Kd
end Kd
namespace Kd
section
variable {α β : Type} {d : Kd α} {d' : Kd β} {e e' : Nat} {w w1 W : World} {base b b' : Nat} {ok ok' okv oku : Nat → Prop} {v u : Value} {xs : List α} {ys : List β}
theorem cu (h : d.R e w base ok v xs) (o : Obj) : d.R e (w.alloc o) base ok v xs := zO h (ab (Below.refl _ _) o)
theorem de (h : d.R e w base ok v xs) : d.R e w.drew base ok v xs := zO h (Mr (Below.refl _ _))
theorem cJ (h : d.R e w base ok v xs) (m : Nat) : d.R e (w.drewN m) base ok v xs := zO h (ai (Below.refl _ _) m)
theorem DM {A : Option Addr} {n c : Nat} (h : d.R e w base ok (.slice A n c) xs) : n = xs.length ∧ n ≤ c ∧ d.C w A xs.length xs := by
  obtain ⟨A', c', he,hl,hr⟩ := CX h
  injection he with h1 h2 h3
  subst h1
  exact ⟨h2,by omega,hr⟩
theorem ab5 (h : d.R e w base ok v xs) : ∀ k,v.ownBlock = some k → k < w.heap.size := by
  obtain ⟨inner,ho⟩ := T7 h
  exact gq ho
theorem Pw (h : d.R e w base ok v xs) : ∀ k,v.ownBlock = some k → base ≤ k := by
  obtain ⟨inner,ho⟩ := T7 h
  exact dY ho
theorem Px (h : d.R e w base ok v xs) {g : Nat} (hok : ∀ k,ok k → k ≠ g) : some g ≠ v.ownBlock := fun e => hok g (h.1 g e.symm) rfl
end
section
variable {w W : World} {A : Option Addr} {n : Nat}
theorem BM {xs : List ByteArray} (h : Kd.string.C w A n xs) (i : Int) (h0 : 0 ≤ i) (h1 : i < n) : ∃ ad,A = some ad ∧ w.cell? (ad.add i.toNat) = some (.string (gI ByteArray.empty xs i)):=
  CW.at_ (LO (enc := Value.string) (d := ByteArray.empty) (h1 := fun _ => rfl) h) i h0 h1
variable {α : Type} {enc : α → Value} {h1 : ∀ x,(enc x).oneCell' = true} {e base g cap : Nat} {ok : Nat → Prop} {xs : List α}
end
section
variable {P : Program} {ops : Array Oper} {rest : List Oper} {o : Oper} {a : Act} {Q : Exit → Act → World → Prop}
theorem OY {W w1 : World} {v : Value} (Ji : o.guard = none) (vy : (execOp a.eval o).run P W = .ok (.value v) w1) (h : wpList P ops Q rest (a.put o.dst v) w1) : wpList P ops Q (o :: rest) a W := by
  refine wpList_plain Ji fun K hK => ?_
  unfold Oper.wp
  rw [vy]
  exact hK _ _ h
variable {α : Type}
end
end Kd
theorem Qm {w : World} {base n m c size : Nat} {e : TypeId} {A : Option Addr} {xs : List Value} (h : w.ownsRow base e size (.slice A n c) n xs) (hm : m ≤ n) : w.ownsRow base e size (.slice A m c) m (xs.take (m * size)) := by
  obtain ⟨h1,h2⟩ := h
  refine ⟨by rw [List.length_take,h1]; exact Nat.min_eq_left (Nat.mul_le_mul_right _ hm),?_⟩
  rcases h2 with ⟨he,h0⟩ | ⟨g,cap,cur,he,hb,hh,Gs,hcm,hcs,ht⟩
  · injection he with ha _ hc
    subst ha; subst hc
    exact .inl ⟨by rw [show m = 0 by omega],by omega⟩
  · injection he with ha _ hc
    subst ha; subst hc
    refine .inr ⟨g,c,cur,rfl,hb,hh,by omega,hcm,hcs,?_⟩
    rw [← ht,List.take_take,Nat.min_eq_left (Nat.mul_le_mul_right _ hm)]
section
variable {P : Program}
end
def afT (w : World) (base : Nat) (e : TypeId) (size : Nat) (v : Value) (n : Nat) (xs : List Value) : Prop:=
  xs.length = n * size ∧
  ((n = 0 ∧ ∃ A,v = .slice A 0 0 ∧ ∀ a,A = some a → base ≤ a.block ∧ ∃ cur,w.heap[a.block]? = some (.cells cur e (0,0))) ∨
   ∃ g off cap cur,v = .slice (some ⟨g,off * size,none⟩) n cap ∧ base ≤ g ∧ w.heap[g]? = some (.cells cur e (0,0)) ∧ n ≤ cap ∧ off + cap ≤ maxLen ∧ cur.size = (off + cap) * size ∧ (cur.toList.drop (off * size)).take (n * size) = xs)
section
variable {w w1 : World} {base n size : Nat} {e : TypeId} {v : Value} {xs : List Value}
end
section
variable {P : Program}
end
namespace Kd
theorem Nh {α : Type} {R : α → List Value → Prop} {size m : Nat} {ps : List α} {cs : List Value} (h : eG R size ps cs) (hm : m ≤ ps.length) : eG R size (ps.take m) (cs.take (m * size)) := by
  refine ⟨by rw [List.length_take,List.length_take,h.1,Nat.min_eq_left hm,Nat.min_eq_left (Nat.mul_le_mul_right _ hm)],fun j p hj => ?_⟩
  rw [List.getElem?_take] at hj
  split at hj
  · rename_i hjm
    have := h.2 j p hj
    have hle : j * size + size ≤ m * size := by rw [← Nat.succ_mul]; exact Nat.mul_le_mul_right _ hjm
    rw [List.drop_take,List.take_take,Nat.min_eq_left (by omega)]
    exact this
  · cases hj
def Q {α : Type} (d : Kd α) (e : Nat) (w : World) (base : Nat) (ok : Nat → Prop) (v : Value) (xs : List α) : Prop:=
  (∀ k,v.ownBlock = some k → ok k) ∧ ∃ inner,afT w base e d.sz v xs.length inner ∧ eG (d.M w base (fun k => ok k ∧ some k ≠ v.ownBlock)) d.sz xs inner
section
variable {α : Type} {d : Kd α} {e : Nat} {w w1 W : World} {base : Nat} {ok ok' : Nat → Prop} {v : Value} {xs : List α}
end
section
variable {P : Program} {ops : Array Oper} {rest : List Oper} {o : Oper} {a : Act} {Q' : Exit → Act → World → Prop} {Kc : Act → World → Prop} {α : Type}
end
end Kd
namespace Kd
section
variable {α : Type} {d : Kd α} {e e' : Nat} {w w1 W : World} {base : Nat} {ok : Nat → Prop} {u v : Value} {xs : List α}
theorem JX (hu : d.R e W base ok u xs) (j6 : ∀ k,v.ownBlock = some k → W.heap.size ≤ k) (hb : Below W.heap.size W w1) : d.R e w1 base (fun k => ok k ∧ some k ≠ v.ownBlock) u xs:=
  fC (JW (lQ hu) (fun k hk => hb.block k hk.2.2.1)) (fun k hk => ⟨hk.1,fun he => by have := j6 k he.symm; have := hk.2.2.1; omega⟩)
theorem Pv (h : d.R e w1 W.heap.size ok v xs) (hlt : ∀ k,u.ownBlock = some k → k < W.heap.size) : d.R e w1 W.heap.size (fun k => ok k ∧ some k ≠ u.ownBlock) v xs:=
  fC (lQ h) (fun k hk => ⟨hk.1,fun he => by have := hlt k he.symm; have := hk.2.1; omega⟩)
end
end Kd
namespace Kd
section
variable {α : Type} {d : Kd α} {e base g n cap : Nat} {ok vq : Nat → Prop} {W : World} {xs : List α}
end
end Kd
namespace Kd
def fixed {α : Type} (d : Kd α) (w0 : World) : Kd α where
  sz := d.sz
  E := []
  K := fun _ x cs => d.K w0 x cs
  M := fun _ _ _ x cs => d.K w0 x cs
  eT := d.eT
  eI := d.eI
  dB := fun _ h => h
  dq := fun h => h
  cG := fun _ h => h
  dc := fun h => h
  dQ := fun _ h => h
  dA := fun _ h => h
def or_ {α : Type} (a b : Kd α) (h : b.sz = a.sz) : Kd α where
  sz := a.sz
  E := a.E ++ b.E
  K := fun w x cs => a.K w x cs ∨ b.K w x cs
  M := fun w base ok x cs => a.M w base ok x cs ∨ b.M w base ok x cs
  eT := fun hk => hk.elim a.eT (fun hk => (b.eT hk).trans h)
  eI := fun hk => hk.elim a.eI b.eI
  dB := fun hb hk => hk.imp (a.dB hb) (b.dB hb)
  dq := fun hk => hk.imp a.dq b.dq
  cG := fun hok hk => hk.imp (a.cG hok) (b.cG hok)
  dc := fun hk => hk.imp
    (fun hk => a.cG (fun _ ⟨h1,h2,h3,q,hq,hc⟩ => ⟨h1,h2,h3,q,List.mem_append_left _ hq,hc⟩) (a.dc hk))
    (fun hk => b.cG (fun _ ⟨h1,h2,h3,q,hq,hc⟩ => ⟨h1,h2,h3,q,List.mem_append_right _ hq,hc⟩) (b.dc hk))
  dQ := fun hm hk => hk.imp (a.dQ hm) (b.dQ hm)
  dA := fun hb hk => hk.imp (a.dA hb) (b.dA hb)
section
variable {α : Type} {F : Kd α → Kd α} {sz : Nat} {E : List Nat} {hs : ∀ n,(upto F sz E n).sz = sz} {hE : ∀ n q,q ∈ (upto F sz E n).E → q ∈ E}
end
end Kd
namespace Kd
theorem J9 {α : Type} {R : α → List Value → Prop} {size : Nat} {ps qs : List α} {cs ds : List Value} (h : eG R size ps cs) (h' : eG R size qs ds) : eG R size (ps ++ qs) (cs ++ ds) := by
  refine ⟨by rw [List.length_append,List.length_append,h.1,h'.1,Nat.add_mul],fun j p hj => ?_⟩
  rcases Nat.lt_or_ge j ps.length with hlt | Jh
  · rw [List.getElem?_append_left hlt] at hj
    have hle : j * size + size ≤ cs.length := by rw [h.1,← Nat.succ_mul]; exact Nat.mul_le_mul_right _ hlt
    rw [List.drop_append_of_le_length (by omega),List.take_append_of_le_length (by rw [List.length_drop]; omega)]
    exact h.2 j p hj
  · rw [List.getElem?_append_right Jh] at hj
    have h2 := h'.2 (j - ps.length) p hj
    have hle : ps.length * size ≤ j * size := Nat.mul_le_mul_right _ Jh
    rw [List.drop_append,List.drop_eq_nil_of_le (by rw [h.1]; exact hle),List.nil_append,h.1,← Nat.sub_mul]
    exact h2
section
variable {P : Program} {ops : Array Oper} {rest : List Oper} {o : Oper} {a : Act} {Q : Exit → Act → World → Prop} {α : Type}
end
end Kd
namespace Kd
section
variable {P : Program} {ops : Array Oper} {rest : List Oper} {o : Oper} {a : Act} {Q : Exit → Act → World → Prop} {α : Type}
end
end Kd
namespace Kd
section
variable {α : Type} {k : Kd α} {w : World} {A : Option Addr} {xs : List α} {m c : Nat}
end
end Kd
section
variable {P : Program}
end
theorem br {w W : World} (h : Below w.heap.size w W) : w.heap.size ≤ W.heap.size := h.size
theorem aw {w W w2 : World} (h : Below w.heap.size w W) (k : Below W.heap.size W w2) : Below w.heap.size w w2 := Mq h h.size k
theorem aR {w W : World} {g j : Nat} {v : Value} (h : Below w.heap.size w W) (hg : w.heap.size ≤ g) : Below w.heap.size w (W.setCell ⟨g,j,none⟩ v) := h.setCell hg _
theorem dV {w : World} {g : Nat} {t : TypeId} {cs cs' : Array Value} (h : w.heap[g]? = some (.cells cs t (0,0))) (i : Nat) (u : Value) (e : cs.setIfInBounds i u = cs') : (w.setCell ⟨g,i,none⟩ u).heap[g]? = some (.cells cs' t (0,0)) := e ▸ Vd h i u
theorem ak {base : Nat} {w W : World} (h : Below base w W) : Below base w W.drew := h.drew
namespace Kd
section
variable {α β : Type} {d : Kd α} {d' : Kd β} {e e' base base' n : Nat} {ok ok' : Nat → Prop} {w W w1 W1 : World} {v u : Value} {xs : List α} {ys : List β} {A : Option Addr} {c : Nat}
end
section
variable {α : Type} {enc : α → Value} {h1 : ∀ x,(enc x).oneCell' = true} {w W : World} {A : Option Addr} {n g : Nat} {xs : List α}
end
end Kd
namespace Kd
section
variable {α : Type} {d : Kd α} {e base g : Nat} {ok : Nat → Prop} {w w1 : World} {v : Value} {xs : List α} {o : Obj}
theorem Pu (h : d.R e w1 w.heap.size ok v xs) (hb : w.heap[g]? = some o) : d.R e w1 w.heap.size (fun k => ok k ∧ k ≠ g) v xs := fC (lQ h) (fun k hk => ⟨hk.1,by have := fB hb; have := hk.2.1; omega⟩)
theorem OU (hb : w.heap[g]? = some o) : ∀ k,w.heap.size ≤ k → k ≠ g := fun k hk => by have := fB hb; omega
end
end Kd
section
variable {P : Program} {ops : Array Oper} {rest : List Oper} {o : Oper} {a : Act} {Q : Exit → Act → World → Prop}
theorem gv {W : World} (Ji : o.guard = none) {N : Tmp} (_hd : o.dst = some N) {cs : Array Value} {t : TypeId}
    (vy : (execOp a.eval o).run P W = .ok (.value (.pointer (some ⟨W.heap.size,0,none⟩))) (W.alloc (.cells cs t (0,0))))
    (h : ∀ g,g = W.heap.size → ∀ w1,w1.heap[g]? = some (.cells cs t (0,0)) → Below W.heap.size W w1 → wpList P ops Q rest (a.put o.dst (.pointer (some ⟨g,0,none⟩))) w1) : wpList P ops Q (o :: rest) a W:=
  Kd.OY Ji vy (h _ rfl _ (Ve W _) (ab (Below.refl _ _) _))
end
namespace Kd
section
variable {α : Type} {enc : α → Value} {h1 : ∀ x,(enc x).oneCell' = true} {e base g n cap : Nat} {ok : Nat → Prop} {W : World} {xs : List α}
end
end Kd
section
variable {P : Program} {ops : Array Oper} {rest : List Oper} {o : Oper} {a : Act} {Q : Exit → Act → World → Prop}
end
namespace Kd
section
variable {α : Type} {enc : α → Value} {h1 : ∀ x,(enc x).oneCell' = true} {e base g n cap : Nat} {ok : Nat → Prop} {W : World} {xs : List α}
end
end Kd
section
variable {P : Program} {ops : Array Oper} {rest : List Oper} {o : Oper} {a : Act} {Q : Exit → Act → World → Prop} {W : World}
theorem ic {N : Tmp} (_hN : o.dst = some N) (h : wpList P ops Q (o :: rest) a W) : wpList P ops Q (o :: rest) a W := h
end
section
variable {P : Program} {ops : Array Oper} {o : Oper} {a : Act} {Q : Exit → Act → World → Prop} {Kc : Act → World → Prop}
namespace Kd
variable {α : Type}
end Kd
end
inductive Vals (P : Program) (tmps : Array Value) (w : World) : List ResultVar → List Value → Prop where
  | nil : Vals P tmps w [] []
  | tmp {u : Tmp} {rs : List ResultVar} {vs : List Value} (h : Vals P tmps w rs vs) : Vals P tmps w (.tmp u :: rs) (tmps.getD u undef :: vs)
  | cell {p : Tmp} {ty : TypeId} {rs : List ResultVar} {vs : List Value} (g : Nat) (t : TypeId) (cs : Array Value) (fr : Nat × Nat) (d : TypeDesc)
      (hp : tmps.getD p undef = .pointer (some ⟨g,0,none⟩)) (hg : w.heap[g]? = some (.cells cs t fr))
      (hu : P.underlying ty = some d) (hd : (match d with | .struct _ | .array _ _ => true | _ => false) = true) (hi : (P.info? ty).map (·.size) = some cs.size)
      (h : Vals P tmps w rs vs) : Vals P tmps w (.cell p ty :: rs) (.agg cs :: vs)
section
variable {P : Program} {tmps : Array Value} {w : World}
end
namespace Kd
section
variable {P : Program} {α : Type}
end
section
variable {P : Program} {ops : Array Oper} {rest : List Oper} {o : Oper} {a : Act} {Q : Exit → Act → World → Prop} {Kc : Act → World → Prop} {α : Type}
end
end Kd
end Go.Proofs.aa.az
namespace Go.Proofs.aa.aM
section
variable {P : Program} {ops : Array Oper} {Q : Exit → Act → World → Prop} {md : Region.Mode} {S : World → Prop} {ds : List Nat}
def Region.ig (md : Region.Mode) (ops : Array Oper) (i : Nat) : Nat → Nat → Bool
  | 0,_ => false
  | fuel + 1,d => match ops[d]? with
    | some o => o.after.any fun e => Region.binds md e && (e.on == i || Region.ig md ops i fuel e.on)
    | none => false
def Region.zM (md : Region.Mode) (ops : Array Oper) (listed : Array Bool) : Bool:=
  (List.range ops.size).all fun j => !listed.getD j false || match ops[j]? with
    | some o => o.after.all fun e => !Region.binds md e || listed.getD e.on false
    | none => true
def Region.Hh (md : Region.Mode) (ops : Array Oper) (listed : Array Bool) (ds : List Nat) (i : Nat) : Bool:=
  ds.all fun d => listed.getD d true || Region.ig md ops i ops.size d
def fZ (md : Region.Mode) (ops : Array Oper) (listed : Array Bool) : Prop:=
  ∀ j oj,ops[j]? = some oj → listed.getD j false = true → ∀ e ∈ oj.after,Region.binds md e = true → listed.getD e.on false = true
theorem Region.JI {listed : Array Bool} (h : Region.zM md ops listed = true) : fZ md ops listed := by
  intro j oj hj hl e he hb
  have hlt : j < ops.size := (Array.getElem?_eq_some_iff.1 hj).1
  have h1 := List.all_eq_true.1 h j (List.mem_range.2 hlt)
  simp only [hl,hj,Bool.not_true,Bool.false_or] at h1
  have h2 := Array.all_eq_true_iff_forall_mem.1 h1 e he
  simpa [hb] using h2
theorem fZ.set {listed : Array Bool} {i : Nat} (h : fZ md ops listed) (hi : i ∈ Region.ready md ops listed) : fZ md ops (listed.setIfInBounds i true) := by
  obtain ⟨_,oi,hoi,hall⟩ := mem_ready.1 hi
  intro j oj hj hl e he hb
  by_cases hij : i = j
  · subst hij
    have : oj = oi := Option.some.inj (hj.symm.trans hoi)
    subst this
    exact getD_set_true (hall e he hb)
  · rw [getD_set_ne false hij] at hl
    exact getD_set_true (h j oj hj hl e he hb)
theorem Region.Ba {listed : Array Bool} {i : Nat} (hc : fZ md ops listed) : ∀ (fuel d : Nat),Region.ig md ops i fuel d = true → listed.getD d false = true → listed.getD i false = true
  | 0,_,h,_ => by simp [Region.ig] at h
  | fuel + 1,d,h,hl => by
    unfold Region.ig at h
    cases ho : ops[d]? with
    | none => rw [ho] at h; simp at h
    | some o=>
      rw [ho] at h
      obtain ⟨e,he,h1⟩ := Array.any_eq_true'.1 h
      simp only [Bool.and_eq_true,Bool.or_eq_true,beq_iff_eq] at h1
      have hle := hc d o ho hl e he h1.1
      rcases h1.2 with h2 | h2
      · rw [← h2]; exact hle
      · exact Region.Ba hc fuel e.on h2 hle
theorem Region.D0 {listed : Array Bool} {i d fuel : Nat} (hc : fZ md ops listed) (hr : Region.ig md ops i fuel d = true) (xx : listed.getD i true = false) : d ∉ Region.ready md ops listed := by
  intro hd
  obtain ⟨_,o,ho,hall⟩ := mem_ready.1 hd
  have hi : listed.getD i false = true := by
    cases fuel with
    | zero => simp [Region.ig] at hr
    | succ n=>
      unfold Region.ig at hr
      rw [ho] at hr
      obtain ⟨e,he,h1⟩ := Array.any_eq_true'.1 hr
      simp only [Bool.and_eq_true,Bool.or_eq_true,beq_iff_eq] at h1
      have hle := hall e he h1.1
      rcases h1.2 with h2 | h2
      · rw [← h2]; exact hle
      · exact Region.Ba hc n e.on h2 hle
  rcases Nat.lt_or_ge i listed.size with h' | h'
  · simp [h'] at xx hi
    rw [xx] at hi
    cases hi
  · simp [Array.getElem?_eq_none h'] at xx
def bA (P : Program) (md : Region.Mode) (ops : Array Oper) (Q : Exit → Act → World → Prop) (S : World → Prop) (ds : List Nat) : Nat → Array Bool → Act → World → Prop
  | 0,listed,a,w => Region.ready md ops listed = [] ∧ Q .normal a w
  | fuel + 1,listed,a,w=>
    (Region.ready md ops listed = [] → Q .normal a w) ∧
    ∀ i ∈ Region.ready md ops listed,wpOp P ops Q i (fun a' w' => (i ∉ ds → S w → S w') ∧ bA P md ops Q S ds fuel (listed.setIfInBounds i true) a' w') a w
theorem Az : ∀ (fuel : Nat) (listed : Array Bool) (a : Act) (w : World),bA P md ops Q S ds fuel listed a w → wpAny P md ops Q fuel listed a w
  | 0,_,_,_,h => h
  | fuel + 1,_,_,_,h => ⟨h.1,fun i hi => wpOp_mono (fun a' w' h' => Az fuel _ a' w' h'.2) (h.2 i hi)⟩
theorem DX {i : Nat} {oi : Oper} {v : Value} (hi : ops[i]? = some oi) (I5 : ∀ (j : Nat) (o : Oper) cs b,ops[j]? = some o → o.op ≠ .select cs b)
    (hQ : ∀ c a w,Q (.panic c) (a.put oi.dst v) w → Q (.panic c) a w) (n : Nat) :
    ∀ (fuel : Nat) (listed : Array Bool) (a : Act) (w : World),
      (∀ j oj,ops[j]? = some oj → j ≠ i → listed.getD j true = false → (∀ e ∈ oj.after,Region.binds md e = true → e.on ≠ i) → oi.apart ops oj = true) →
      fZ md ops listed → (∀ d ∈ ds,listed.getD d true = false → Region.ig md ops i n d = true) →
      i ∈ Region.ready md ops listed → YieldsIf P ops S oi v a → S w →
      bA P md ops Q S ds fuel (listed.setIfInBounds i true) (a.put oi.dst v) w → bA P md ops Q S ds (fuel + 1) listed a w := by
  intro fuel
  induction fuel with
  | zero=>
    intro listed a w _ _ _ hr hy hS H
    refine ⟨fun h => (by rw [h] at hr; cases hr),fun j hj => ?_⟩
    by_cases fF : j = i
    · subst fF; exact hy.wpOp hi hS ⟨fun _ h => h,H⟩
    · have := ready_mono hj fF
      rw [H.1] at this
      cases this
  | succ fuel ih=>
    intro listed a w Ew hc hd hr hy hS H
    refine ⟨fun h => (by rw [h] at hr; cases hr),fun j hj => ?_⟩
    by_cases fF : j = i
    · subst fF; exact hy.wpOp hi hS ⟨fun _ h => h,H⟩
    · have h1 := H.2 j (ready_mono hj fF)
      obtain ⟨DD,oj,Jd,hall⟩ := mem_ready.1 hj
      have FT := (mem_ready.1 hr).1
      have Q3 : ∀ e ∈ oj.after,Region.binds md e = true → e.on ≠ i := fun e he hb heq => by
        have h1 := hall e he hb
        rw [heq] at h1
        rcases Nat.lt_or_ge i listed.size with h' | h'
        · simp [h'] at FT h1; rw [FT] at h1; cases h1
        · simp [Array.getElem?_eq_none h'] at h1
      have hjd : j ∉ ds := fun hm => Region.D0 hc (hd j hm DD) FT hj
      have h2 := wpOp_putIf Jd (Ew j oj Jd fF DD Q3) (fun cs b => I5 i oi cs b hi) (fun cs b => I5 j oj cs b Jd) hQ hy h1
      have Jm : ∀ k ok,ops[k]? = some ok → k ≠ i → (listed.setIfInBounds j true).getD k true = false →
          (∀ e ∈ ok.after,Region.binds md e = true → e.on ≠ i) → oi.apart ops ok = true := fun k ok hk Zs xx Zm => by
        refine Ew k ok hk Zs ?_ Zm
        by_cases Gw : j = k
        · subst Gw; exact DD
        · rw [getD_set_ne true Gw] at xx; exact xx
      have hd' : ∀ d ∈ ds,(listed.setIfInBounds j true).getD d true = false → Region.ig md ops i n d = true := fun d hm xx => by
        refine hd d hm ?_
        by_cases Gw : j = d
        · subst Gw; exact DD
        · rw [getD_set_ne true Gw] at xx; exact xx
      refine wpOp_mono (fun a' w' h3 => ⟨h3.2.1,ih (listed.setIfInBounds j true) a' w' Jm (hc.set hj) hd' (ready_mono hr (Ne.symm fF)) h3.1 (h3.2.1 hjd hS) ?_⟩) h2
      rw [Array.setIfInBounds_comm _ _ fF]
      exact h3.2.2
theorem AA {i : Nat} {oi : Oper} {v : Value} (hi : ops[i]? = some oi) (I5 : ∀ (j : Nat) (o : Oper) cs b,ops[j]? = some o → o.op ≠ .select cs b)
    (hQ : ∀ c a w,Q (.panic c) (a.put oi.dst v) w → Q (.panic c) a w) :
    ∀ (fuel : Nat) (listed : Array Bool) (a : Act) (w : World),
      (∀ j oj,ops[j]? = some oj → j ≠ i → listed.getD j true = false → (∀ e ∈ oj.after,Region.binds md e = true → e.on ≠ i) → oi.apart ops oj = true) →
      i ∈ Region.ready md ops listed → Yields P ops oi v a →
      bA P md ops Q S ds fuel (listed.setIfInBounds i true) (a.put oi.dst v) w → bA P md ops Q S ds (fuel + 1) listed a w := by
  intro fuel
  induction fuel with
  | zero=>
    intro listed a w _ hr hy H
    refine ⟨fun h => (by rw [h] at hr; cases hr),fun j hj => ?_⟩
    by_cases fF : j = i
    · subst fF; exact (hy.yieldsIf (S := fun _ => True)).wpOp hi trivial ⟨fun _ h => h,H⟩
    · have := ready_mono hj fF
      rw [H.1] at this
      cases this
  | succ fuel ih=>
    intro listed a w Ew hr hy H
    refine ⟨fun h => (by rw [h] at hr; cases hr),fun j hj => ?_⟩
    by_cases fF : j = i
    · subst fF; exact (hy.yieldsIf (S := fun _ => True)).wpOp hi trivial ⟨fun _ h => h,H⟩
    · have h1 := H.2 j (ready_mono hj fF)
      obtain ⟨DD,oj,Jd,hall⟩ := mem_ready.1 hj
      have FT := (mem_ready.1 hr).1
      have Q3 : ∀ e ∈ oj.after,Region.binds md e = true → e.on ≠ i := fun e he hb heq => by
        have h1 := hall e he hb
        rw [heq] at h1
        rcases Nat.lt_or_ge i listed.size with h' | h'
        · simp [h'] at FT h1; rw [FT] at h1; cases h1
        · simp [Array.getElem?_eq_none h'] at h1
      have h2 := wpOp_put Jd (Ew j oj Jd fF DD Q3) (fun cs b => I5 i oi cs b hi) (fun cs b => I5 j oj cs b Jd) hQ hy h1
      have Jm : ∀ k ok,ops[k]? = some ok → k ≠ i → (listed.setIfInBounds j true).getD k true = false →
          (∀ e ∈ ok.after,Region.binds md e = true → e.on ≠ i) → oi.apart ops ok = true := fun k ok hk Zs xx Zm => by
        refine Ew k ok hk Zs ?_ Zm
        by_cases Gw : j = k
        · subst Gw; exact DD
        · rw [getD_set_ne true Gw] at xx; exact xx
      refine wpOp_mono (fun a' w' h3 => ⟨h3.2.1,ih (listed.setIfInBounds j true) a' w' Jm (ready_mono hr (Ne.symm fF)) h3.1 ?_⟩) h2
      rw [Array.setIfInBounds_comm _ _ fF]
      exact h3.2.2
theorem gF {i : Nat} {oi : Oper} {v : Value} {fuel : Nat} {listed : Array Bool} {a : Act} {w : World} (hi : ops[i]? = some oi)
    (hs : Region.noSelect ops = true) (hf : Region.free md ops listed i = true) (hr : (Region.ready md ops listed).contains i = true)
    (hc : Region.zM md ops listed = true) (hl : Region.Hh md ops listed ds i = true)
    (hQ : ∀ c a w,Q (.panic c) (a.put oi.dst v) w → Q (.panic c) a w) (hy : YieldsIf P ops S oi v a) (hS : S w)
    (h : bA P md ops Q S ds fuel (listed.setIfInBounds i true) (a.put oi.dst v) w) : bA P md ops Q S ds (fuel + 1) listed a w:=
  DX hi (Region.noSelect_spec hs) hQ ops.size fuel listed a w (Region.free_spec hi hf) (Region.JI hc)
    (fun d hm xx => by have := List.all_eq_true.1 hl d hm; rw [xx] at this; simpa using this) (by simpa using hr) hy hS h
theorem G3 {rs : List Nat} {fuel : Nat} {listed : Array Bool} {a : Act} {w : World} (hr : Region.ready md ops listed = rs) (hne : rs ≠ [])
    (h : ∀ i ∈ rs,wpOp P ops Q i (fun a' w' => (i ∉ ds → S w → S w') ∧ bA P md ops Q S ds fuel (listed.setIfInBounds i true) a' w') a w) : bA P md ops Q S ds (fuel + 1) listed a w:=
  ⟨fun h0 => absurd (hr ▸ h0) hne,hr ▸ h⟩
theorem je {listed : Array Bool} {a : Act} {w : World} (hr : Region.ready md ops listed = []) (h : Q .normal a w) :
    ∀ fuel,bA P md ops Q S ds fuel listed a w
  | 0 => ⟨hr,h⟩
  | _ + 1 => ⟨fun _ => h,by rw [hr]; simp⟩
theorem y' {id : Nat} {a : Act} {w : World} (hm : P.follows .mixedOrders = true)
    (h : bA P .any ops Q S ds ops.size (Array.replicate ops.size false) a { w with drawn := w.drawn + 1 }) : (Code.region id ops true).wp P Q a w:=
  wp_region_any hm (Az _ _ _ _ h)
end
section
variable {P : Program} {ops : Array Oper} {Q : Exit → Act → World → Prop} {md : Region.Mode} {S : World → Prop} {ds : List Nat}
def bd (P : Program) (md : Region.Mode) (ops : Array Oper) (Q : Exit → Act → World → Prop) (S : World → Prop) (ds : List Nat) (fuel : Nat) (listed : Array Bool) (a : Act) (w : World) (rs : List Nat) : Prop:=
  ∀ i ∈ rs,wpOp P ops Q i (fun a' w' => (i ∉ ds → S w → S w') ∧ bA P md ops Q S ds fuel (listed.setIfInBounds i true) a' w') a w
theorem bd.nil {fuel : Nat} {listed : Array Bool} {a : Act} {w : World} : bd P md ops Q S ds fuel listed a w [] := fun _ h => by cases h
theorem bd.cons {fuel : Nat} {listed : Array Bool} {a : Act} {w : World} {i : Nat} {o : Oper} {rs : List Nat} (ho : ops[i]? = some o) (hd : i ∉ ds)
    (h : ∀ K' : Act → World → Prop,Shut (∀ a w,S w → (S w → bA P md ops Q S ds fuel (listed.setIfInBounds i true) a w) → K' a w) → if Region.wanted o (yielded ops a.tmps) = true then Oper.wp P o a w K' Q else K' (a.put o.dst undef) w)
    (hs : bd P md ops Q S ds fuel listed a w rs) : bd P md ops Q S ds fuel listed a w (i :: rs) := fun j hj => by
  rcases List.mem_cons.1 hj with rfl | hj
  · exact wpOp_step ho (fun K' hK => h K' (fun a w hS hW => hK a w ⟨fun _ _ => hS,hW hS⟩))
  · exact hs j hj
theorem bd.ja {fuel : Nat} {listed : Array Bool} {a : Act} {w : World} {i : Nat} {o : Oper} {rs : List Nat} (ho : ops[i]? = some o) (hd : i ∈ ds)
    (h : ∀ K' : Act → World → Prop,Shut (∀ a w,bA P md ops Q S ds fuel (listed.setIfInBounds i true) a w → K' a w) → if Region.wanted o (yielded ops a.tmps) = true then Oper.wp P o a w K' Q else K' (a.put o.dst undef) w)
    (hs : bd P md ops Q S ds fuel listed a w rs) : bd P md ops Q S ds fuel listed a w (i :: rs) := fun j hj => by
  rcases List.mem_cons.1 hj with rfl | hj
  · exact wpOp_step ho (fun K' hK => h K' (fun a w hW => hK a w ⟨fun hn => absurd hd hn,hW⟩))
  · exact hs j hj
theorem bI {rs : List Nat} {fuel : Nat} {listed : Array Bool} {a : Act} {w : World} (hr : Region.ready md ops listed = rs) (hne : rs ≠ [])
    (h : bd P md ops Q S ds fuel listed a w rs) : bA P md ops Q S ds (fuel + 1) listed a w := G3 hr hne h
theorem AH {id : Nat} {a : Act} {w : World} (hm : P.follows .mixedOrders = true) (hS : S w.drew)
    (h : S w.drew → bA P .any ops Q S ds ops.size (Array.replicate ops.size false) a w.drew) : (Code.region id ops true).wp P Q a w:=
  y' hm (h hS)
theorem Yj {id n : Nat} {a : Act} {w : World} (l : Array Bool) (hm : P.follows .mixedOrders = true) (hn : ops.size = n) (hl : Array.replicate n false = l) (hS : S w.drew)
    (h : S w.drew → bA P .any ops Q S ds n l a w.drew) : (Code.region id ops true).wp P Q a w := by
  subst hn
  subst hl
  exact y' hm (h hS)
def takeB (md : Region.Mode) (ops : Array Oper) (ds : List Nat) (l l' : Array Bool) (i : Nat) : Bool:=
  Region.noSelect ops && Region.free md ops l i && (Region.ready md ops l).contains i && Region.zM md ops l && Region.Hh md ops l ds i && (l.setIfInBounds i true == l')
theorem SU {i : Nat} {N : Option Tmp} {oi : Oper} {v : Value} {fuel : Nat} {l : Array Bool} {a : Act} {w : World} (l' : Array Bool) (hi : ops[i]? = some oi) (hN : oi.dst = N) (hc : takeB md ops ds l l' i = true)
    (hQ : ∀ c a w,Q (.panic c) (a.put oi.dst v) w → Q (.panic c) a w) (hy : YieldsIf P ops S oi v a) (hS : S w) {a' : Act} (ha : a.put N v = a')
    (h : bA P md ops Q S ds fuel l' a' w) : bA P md ops Q S ds (fuel + 1) l a w := by
  subst ha
  subst hN
  simp only [takeB,Bool.and_eq_true,beq_iff_eq] at hc
  obtain ⟨⟨⟨⟨⟨h1,h2⟩,h3⟩,h4⟩,h5⟩,h6⟩ := hc
  subst h6
  exact gF hi h1 h2 h3 h4 h5 hQ hy hS h
def Ms (md : Region.Mode) (ops : Array Oper) (l l' : Array Bool) (i : Nat) : Bool:=
  Region.noSelect ops && Region.free md ops l i && (Region.ready md ops l).contains i && (l.setIfInBounds i true == l')
theorem S5 {i : Nat} {N : Option Tmp} {oi : Oper} {v : Value} {fuel : Nat} {l : Array Bool} {a : Act} {w : World} (l' : Array Bool) (hi : ops[i]? = some oi) (hN : oi.dst = N) (hc : Ms md ops l l' i = true)
    (hQ : ∀ c a w,Q (.panic c) (a.put oi.dst v) w → Q (.panic c) a w) (hy : Yields P ops oi v a) {a' : Act} (ha : a.put N v = a')
    (h : bA P md ops Q S ds fuel l' a' w) : bA P md ops Q S ds (fuel + 1) l a w := by
  subst ha
  subst hN
  simp only [Ms,Bool.and_eq_true,beq_iff_eq] at hc
  obtain ⟨⟨⟨h1,h2⟩,h3⟩,h6⟩ := hc
  subst h6
  exact AA hi (Region.noSelect_spec h1) hQ fuel l a w (Region.free_spec hi h2) (by simpa using h3) hy h
def zu (md : Region.Mode) (ops : Array Oper) (l l' : Array Bool) (i : Nat) : Bool := (Region.ready md ops l == [i]) && (l.setIfInBounds i true == l')
theorem Qr {i : Nat} {N : Option Tmp} {oi : Oper} {fuel : Nat} {l : Array Bool} {a : Act} {w : World} (l' : Array Bool) (hi : ops[i]? = some oi) (hN : oi.dst = N) (hc : zu md ops l l' i = true) (hd : i ∉ ds)
    (h : ∀ K : Act → World → Prop,Shut (∀ a' w', S w' → (S w' → bA P md ops Q S ds fuel l' a' w') → K a' w') → if Region.wanted oi (yielded ops a.tmps) = true then Oper.wp P oi a w K Q else K (a.put N undef) w) :
    bA P md ops Q S ds (fuel + 1) l a w := by
  subst hN
  simp only [zu,Bool.and_eq_true,beq_iff_eq] at hc
  obtain ⟨h1,h2⟩ := hc
  subst h2
  exact bI h1 (by simp) (bd.cons hi hd (fun K hK => h K hK) bd.nil)
theorem acQ {i : Nat} {N : Option Tmp} {oi : Oper} {fuel : Nat} {l : Array Bool} {a : Act} {w : World} (l' : Array Bool) (hi : ops[i]? = some oi) (hN : oi.dst = N) (hc : zu md ops l l' i = true) (hd : i ∈ ds)
    (h : ∀ K : Act → World → Prop,Shut (∀ a' w', bA P md ops Q S ds fuel l' a' w' → K a' w') → if Region.wanted oi (yielded ops a.tmps) = true then Oper.wp P oi a w K Q else K (a.put N undef) w) :
    bA P md ops Q S ds (fuel + 1) l a w := by
  subst hN
  simp only [zu,Bool.and_eq_true,beq_iff_eq] at hc
  obtain ⟨h1,h2⟩ := hc
  subst h2
  exact bI h1 (by simp) (bd.ja hi hd (fun K hK => h K hK) bd.nil)
theorem ac8 {l : Array Bool} {a : Act} {w : World} {n : Nat} (hr : (Region.ready md ops l == []) = true) (h : Q .normal a w) : bA P md ops Q S ds n l a w := je (by simpa using hr) h n
def Yt : Act → List (Tmp × Value) → Act
  | a,[] => a
  | a,(n,v) :: r => Yt (a.put (some n) v) r
theorem LS {fuel : Nat} {l : Array Bool} {a a' : Act} {w : World} (ha : a = a') (h : bA P md ops Q S ds fuel l a' w) : bA P md ops Q S ds fuel l a w := by
  subst ha
  exact h
theorem ac9 {oi : Oper} {N : Option Tmp} {a : Act} {w : World} {K : Act → World → Prop} (f : FuncId) (args : Array Value) (hw : Region.wanted oi (yielded ops a.tmps) = true) (hN : oi.dst = N) (vy : (execOp a.eval oi).run P w = .ok (.enter f args) w)
    (h : Calls P f args w fun e w' => ∃ v,e = .returned v ∧ K (a.put N v) w') : if Region.wanted oi (yielded ops a.tmps) = true then Oper.wp P oi a w K Q else K (a.put N undef) w := by
  rw [if_pos hw]
  subst hN
  unfold Oper.wp
  rw [vy,Oper.upon_enter]
  refine h.mono fun e w'' hh => ?_
  obtain ⟨v,rfl,hk⟩ := hh
  exact hk
theorem Lk {f : FuncId} {fn : Func} (hf : P.funcs[f]? = some fn) (Ep : (fn.name == "runtime.NumGoroutine") = false) (hb : fn.body.isSome = true) (args : Array Value) (w : World) : (callFunc f args).run P w = .ok (.enter f args) w := by
  have h1 : fn.name ≠ "runtime.NumGoroutine" := by simpa using Ep
  obtain ⟨c,hc⟩ := Option.isSome_iff_exists.1 hb
  simp [callFunc,hf,h1,hc]
theorem ac2 {oi : Oper} {N : Option Tmp} {a : Act} {w : World} {K : Act → World → Prop} {f : FuncId} {fn : Func} {as : Array Operand} {ts : Array TypeId} (hf : P.funcs[f]? = some fn) (Ep : (fn.name == "runtime.NumGoroutine") = false) (hb : fn.body.isSome = true) (args : Array Value)
    (hw : Region.wanted oi (yielded ops a.tmps) = true) (hN : oi.dst = N) (Zj : oi.op = .call { callee := .value (.func f),args := as,argTypes := ts }) (Hk : as.map a.eval = args)
    (h : Calls P f args w fun e w' => ∃ v,e = .returned v ∧ K (a.put N v) w') : if Region.wanted oi (yielded ops a.tmps) = true then Oper.wp P oi a w K Q else K (a.put N undef) w := by
  refine ac9 f args hw hN ?_ h
  have he := Lk hf Ep hb args w
  unfold execOp
  simp [Zj,resolve,Deferred.ofValue,invoke,Act.eval,Hk,he]
theorem bK {rest : List Oper} {oi : Oper} {a : Act} {w : World} (N : Option Tmp) (hd : oi.dst = N) (hg : oi.guard = none) {f : FuncId} {fn : Func} {as : Array Operand} {ts : Array TypeId} (hf : P.funcs[f]? = some fn) (Ep : (fn.name == "runtime.NumGoroutine") = false) (hb : fn.body.isSome = true) (args : Array Value)
    (Zj : oi.op = .call { callee := .value (.func f),args := as,argTypes := ts }) (Hk : as.map a.eval = args)
    (h : Calls P f args w fun e w' => ∃ v,e = .returned v ∧ wpList P ops Q rest (a.put N v) w') : wpList P ops Q (oi :: rest) a w := by
  refine wpList_plain hg fun K hK => ?_
  have he := Lk hf Ep hb args w
  have vy : (execOp a.eval oi).run P w = .ok (.enter f args) w := by
    unfold execOp
    simp [Zj,resolve,Deferred.ofValue,invoke,Act.eval,Hk,he]
  unfold Oper.wp
  rw [vy,Oper.upon_enter]
  refine h.mono fun e w'' hh => ?_
  obtain ⟨v,rfl,hk⟩ := hh
  subst hd
  exact hK _ _ hk
theorem Xq {oi : Oper} {N : Option Tmp} {a : Act} {w w1 : World} {v : Value} {K : Act → World → Prop} (hw : Region.wanted oi (yielded ops a.tmps) = true) (hN : oi.dst = N) (vy : (execOp a.eval oi).run P w = .ok (.value v) w1)
    (h : K (a.put N v) w1) : if Region.wanted oi (yielded ops a.tmps) = true then Oper.wp P oi a w K Q else K (a.put N undef) w := by
  rw [if_pos hw]
  subst hN
  unfold Oper.wp
  rw [vy]
  exact h
theorem acE {oi : Oper} {a : Act} {w w1 : World} {K : Act → World → Prop} (hw : Region.wanted oi (yielded ops a.tmps) = true) (hN : oi.dst = none) (vy : (execOp a.eval oi).run P w = .ok .skip w1)
    (h : K a w1) : if Region.wanted oi (yielded ops a.tmps) = true then Oper.wp P oi a w K Q else K (a.put none undef) w := by
  rw [if_pos hw]
  unfold Oper.wp
  rw [vy]
  show K (a.put oi.dst undef) w1
  rw [hN]
  exact h
theorem cL (n : Int) : IntKind.i64.wrap n = Go.RowKit.wrap64 n := by unfold Go.RowKit.wrap64; exact IntKind.wrap_i64 n
theorem dr (n : Int) : IntKind.i32.wrap n = Go.RowKit.wrap32 n := by unfold Go.RowKit.wrap32; exact IntKind.wrap_i32 n
end
end Go.Proofs.aa.aM
namespace Go.Proofs.aa.aM
open Go.Proofs.aa.az (U)
def lN (md : Region.Mode) (o : Oper) : List Nat := (o.after.toList.filter (fun e => Region.binds md e)).map (fun e => e.on)
def FY (md : Region.Mode) (ops : Array Oper) (i : Nat) (oi : Oper) : List Nat := (List.range ops.size).filter fun j => !(j == i) && match ops[j]? with
  | some oj => !(oj.after.any (fun e => Region.binds md e && e.on == i) || oi.apart ops oj)
  | none => false
def gB (md : Region.Mode) (ops : Array Oper) : Bool × List (List Nat × List Nat) := (Region.noSelect ops,(List.range ops.size).map fun i => match ops[i]? with
  | some o => (lN md o,FY md ops i o)
  | none => ([],[]))
def jK (T : List (List Nat × List Nat)) (l : List Bool) (i : Nat) : Bool := !l.getD i true && match T[i]? with
  | some r => r.1.all (fun j => l.getD j false)
  | none => false
def AZ (T : List (List Nat × List Nat)) (l : List Bool) : List Nat := (List.range T.length).filter (jK T l)
def ED (T : List (List Nat × List Nat)) (l : List Bool) (i : Nat) : Bool := match T[i]? with
  | some r => r.2.all (fun j => l.getD j true)
  | none => false
def Cp (T : List (List Nat × List Nat)) (l : List Bool) : Bool := (List.range T.length).all fun j => !l.getD j false || match T[j]? with
  | some r => r.1.all (fun k => l.getD k false)
  | none => true
def zw (T : List (List Nat × List Nat)) (i : Nat) : Nat → Nat → Bool
  | 0,_ => false
  | fuel + 1,d => match T[d]? with
    | some r => r.1.any fun j => j == i || zw T i fuel j
    | none => false
def Hg (T : List (List Nat × List Nat)) (l : List Bool) (ds : List Nat) (i : Nat) : Bool := ds.all fun d => l.getD d true || zw T i T.length d
section
variable {md : Region.Mode} {ops : Array Oper} {T : Bool × List (List Nat × List Nat)} {l l' li lj lk : Array Bool} {ds : List Nat} {i j k : Nat}
theorem gd (l : Array Bool) (j : Nat) (b : Bool) : l.getD j b = l.toList.getD j b := by simp [Array.getD_eq_getD_getElem?,List.getD_eq_getElem?_getD]
theorem Gh (o : Oper) (p : Nat → Bool) : o.after.all (fun e => !Region.binds md e || p e.on) = (lN md o).all p := by
  unfold lN
  rw [← Array.all_toList]
  induction o.after.toList with
  | nil => rfl
  | cons e r ih=>
    rw [List.all_cons,ih,List.filter_cons]
    cases h : Region.binds md e <;> simp
theorem Nt (o : Oper) (p : Nat → Bool) : o.after.any (fun e => Region.binds md e && p e.on) = (lN md o).any p := by
  unfold lN
  rw [← Array.any_toList]
  induction o.after.toList with
  | nil => rfl
  | cons e r ih=>
    rw [List.any_cons,ih,List.filter_cons]
    cases h : Region.binds md e <;> simp
theorem kC : (gB md ops).2.length = ops.size := by simp [gB]
theorem xp {o : Oper} (h : ops[i]? = some o) : (gB md ops).2[i]? = some (lN md o,FY md ops i o) := by
  have hi := (Array.getElem?_eq_some_iff.1 h).1
  unfold gB
  rw [List.getElem?_map,List.getElem?_range hi,Option.map_some,h]
theorem xq (h : ops[i]? = none) : (gB md ops).2[i]? = none := by
  have hi : ops.size ≤ i := Array.getElem?_eq_none_iff.1 h
  exact List.getElem?_eq_none (by rw [kC]; exact hi)
theorem LN : jK (gB md ops).2 l.toList i = (!l.getD i true && ((ops[i]?).map (·.after.all fun e => !Region.binds md e || l.getD e.on false)).getD false) := by
  unfold jK
  rw [gd]
  cases h : ops[i]? with
  | none => rw [xq h]; rfl
  | some o=>
    rw [xp h]
    simp only [Option.map_some,Option.getD_some]
    rw [← Gh]
    simp only [gd]
theorem Dv : Region.ready md ops l = AZ (gB md ops).2 l.toList := by
  unfold Region.ready AZ
  rw [kC]
  refine List.filter_congr (fun i _ => ?_)
  rw [LN]
theorem free_eq : Region.free md ops l i = ED (gB md ops).2 l.toList i := by
  unfold Region.free ED
  cases h : ops[i]? with
  | none => rw [xq h]
  | some oi=>
    rw [xp h]
    simp only [FY]
    rw [List.all_filter]
    congr 1
    funext j
    rw [gd]
    cases hj : ops[j]? with
    | none => cases (j == i) <;> cases (l.toList.getD j true) <;> simp
    | some oj=>
      cases (j == i) <;> cases (l.toList.getD j true) <;> cases (oj.after.any (fun e => Region.binds md e && e.on == i) || oi.apart ops oj) <;> simp_all
theorem closed_eq : Region.zM md ops l = Cp (gB md ops).2 l.toList := by
  unfold Region.zM Cp
  rw [kC]
  congr 1
  funext j
  rw [gd]
  cases h : ops[j]? with
  | none => rw [xq h]
  | some o=>
    rw [xp h]
    simp only
    rw [← Gh]
    simp only [gd]
theorem reach_eq : ∀ (fuel d : Nat),Region.ig md ops i fuel d = zw (gB md ops).2 i fuel d
  | 0,_ => rfl
  | fuel + 1,d => by
    unfold Region.ig zw
    cases h : ops[d]? with
    | none => rw [xq h]
    | some o=>
      rw [xp h]
      simp only
      rw [← Nt]
      congr 1
      funext e
      rw [reach_eq fuel]
theorem last_eq : Region.Hh md ops l ds i = Hg (gB md ops).2 l.toList ds i := by
  unfold Region.Hh Hg
  rw [kC]
  congr 1
  funext d
  rw [gd,reach_eq]
theorem Da (h : jK T.2 l.toList i = true) (hT : gB md ops = T) : (Region.ready md ops l).contains i = true := by
  subst hT
  rw [Dv]
  unfold AZ
  rw [List.contains_iff_mem,List.mem_filter,List.mem_range]
  refine ⟨?_,h⟩
  unfold jK at h
  rw [Bool.and_eq_true] at h
  cases hq : (gB md ops).2[i]? with
  | none => rw [hq] at h; simp at h
  | some r => exact (List.getElem?_eq_some_iff.1 hq).1
theorem Ii (h : (l.toList.set i true == l'.toList) = true) : (l.setIfInBounds i true == l') = true := by
  rw [beq_iff_eq] at h ⊢
  apply Array.ext'
  rw [Array.toList_setIfInBounds]
  exact h
def abZ (T : Bool × List (List Nat × List Nat)) (l l' : List Bool) (i : Nat) : Bool := T.1 && ED T.2 l i && jK T.2 l i && (l.set i true == l')
theorem Pq (hT : gB md ops = T) (h : abZ T l.toList l'.toList i = true) : Ms md ops l l' i = true := by
  simp only [abZ,Bool.and_eq_true] at h
  obtain ⟨⟨⟨h1,h2⟩,h3⟩,h4⟩ := h
  have h5 := Da h3 hT
  have h6 := Ii h4
  subst hT
  simp only [Ms,Bool.and_eq_true]
  exact ⟨⟨⟨h1,by rw [free_eq]; exact h2⟩,h5⟩,h6⟩
def LJ (T : Bool × List (List Nat × List Nat)) (ds : List Nat) (l l' : List Bool) (i : Nat) : Bool := T.1 && ED T.2 l i && jK T.2 l i && Cp T.2 l && Hg T.2 l ds i && (l.set i true == l')
theorem UJ (hT : gB md ops = T) (h : LJ T ds l.toList l'.toList i = true) : takeB md ops ds l l' i = true := by
  simp only [LJ,Bool.and_eq_true] at h
  obtain ⟨⟨⟨⟨⟨h1,h2⟩,h3⟩,h4⟩,h5⟩,h6⟩ := h
  have h7 := Da h3 hT
  have h8 := Ii h6
  subst hT
  simp only [takeB,Bool.and_eq_true]
  exact ⟨⟨⟨⟨⟨h1,by rw [free_eq]; exact h2⟩,h7⟩,by rw [closed_eq]; exact h4⟩,by rw [last_eq]; exact h5⟩,h8⟩
theorem D8 (hT : gB md ops = T) (h : (AZ T.2 l.toList == [i] && l.toList.set i true == l'.toList) = true) : zu md ops l l' i = true := by
  simp only [Bool.and_eq_true] at h
  obtain ⟨h1,h2⟩ := h
  subst hT
  simp only [zu,Bool.and_eq_true]
  exact ⟨by rw [Dv]; exact h1,Ii h2⟩
theorem U9 (hT : gB md ops = T) (h : (AZ T.2 l.toList == []) = true) : (Region.ready md ops l == []) = true := by
  subst hT
  rw [Dv]
  exact h
def H9 (B : List Nat) (d : Nat) : List Nat → Nat
  | [] => 0
  | n :: r => (2 ^ n ||| (if n < d then B.getD n 0 else 0)) ||| H9 B d r
def za (T : List (List Nat × List Nat)) (B : List Nat) : Bool := (List.range T.length).all fun d => match T[d]? with
  | some r => (B.getD d 0 ||| H9 B d r.1) == H9 B d r.1
  | none => false
theorem Kp {B : List Nat} {d i : Nat} : ∀ {ns : List Nat},(H9 B d ns).testBit i = true → ∃ n ∈ ns,n = i ∨ (n < d ∧ (B.getD n 0).testBit i = true)
  | [],h => by simp [H9] at h
  | n :: r,h => by
    unfold H9 at h
    rw [Nat.testBit_or,Nat.testBit_or,Bool.or_eq_true,Bool.or_eq_true] at h
    rcases h with (h | h) | h
    · rw [Nat.testBit_two_pow] at h
      exact ⟨n,List.mem_cons_self,.inl (by simpa using h)⟩
    · by_cases hn : n < d
      · rw [if_pos hn] at h
        exact ⟨n,List.mem_cons_self,.inr ⟨hn,h⟩⟩
      · rw [if_neg hn] at h
        simp at h
    · obtain ⟨m,hm,h2⟩ := Kp h
      exact ⟨m,List.mem_cons_of_mem _ hm,h2⟩
theorem Gd {T : List (List Nat × List Nat)} {B : List Nat} (hB : za T B = true) : ∀ (fuel d : Nat),d < fuel → d < T.length → (B.getD d 0).testBit i = true → zw T i fuel d = true
  | 0,d,h,_,_ => by omega
  | fuel + 1,d,h,hd,hb => by
    have h1 := List.all_eq_true.1 hB d (List.mem_range.2 hd)
    cases hr : T[d]? with
    | none => rw [hr] at h1; simp at h1
    | some r=>
      rw [hr] at h1
      simp only [beq_iff_eq] at h1
      have h2 : (H9 B d r.1).testBit i = true := by rw [← h1,Nat.testBit_or,hb,Bool.true_or]
      obtain ⟨n,hn,h3⟩ := Kp h2
      unfold zw
      rw [hr]
      simp only
      rw [List.any_eq_true]
      refine ⟨n,hn,?_⟩
      rcases h3 with rfl | ⟨h4,h5⟩
      · simp
      · rw [Gd hB fuel n (by omega) (by omega) h5,Bool.or_true]
def S9 (T : List (List Nat × List Nat)) (B : List Nat) (l : List Bool) (ds : List Nat) (i : Nat) : Bool := ds.all fun d => l.getD d true || (decide (d < T.length) && (B.getD d 0).testBit i)
def SV (T : Bool × List (List Nat × List Nat)) (B : List Nat) (ds : List Nat) (l l' : List Bool) (i : Nat) : Bool := T.1 && ED T.2 l i && jK T.2 l i && Cp T.2 l && S9 T.2 B l ds i && (l.set i true == l')
theorem Ie {B : List Nat} (hT : gB md ops = T) (hB : za T.2 B = true) (h : SV T B ds l.toList l'.toList i = true) : takeB md ops ds l l' i = true := by
  refine UJ hT ?_
  simp only [SV,LJ,Bool.and_eq_true] at h ⊢
  obtain ⟨⟨⟨⟨⟨h1,h2⟩,h3⟩,h4⟩,h5⟩,h6⟩ := h
  refine ⟨⟨⟨⟨⟨h1,h2⟩,h3⟩,h4⟩,?_⟩,h6⟩
  unfold S9 at h5
  unfold Hg
  rw [List.all_eq_true] at h5 ⊢
  intro d hd
  have h7 := h5 d hd
  rw [Bool.or_eq_true,Bool.and_eq_true,decide_eq_true_eq] at h7
  rcases h7 with h7 | ⟨h8,h9⟩
  · rw [h7,Bool.true_or]
  · rw [Gd hB _ d h8 h8 h9,Bool.or_true]
theorem MK {P : Program} {Q : Exit → Act → World → Prop} {S : World → Prop} {n : Nat} {a : Act} {w : World} {B : List Nat} (hT : gB md ops = T) (hB : za T.2 B = true) (h : U (gB md ops = T) → U (za T.2 B = true) → bA P md ops Q S ds n l a w) : bA P md ops Q S ds n l a w := h ⟨hT⟩ ⟨hB⟩
end
def kD : Code → Nat → Option (Array Oper)
  | .region id ops _,k => if id == k then some ops else none
  | .seq a b,k => match kD a k with
    | some o => some o
    | none => kD b k
  | .cond _ a b,k => match kD a k with
    | some o => some o
    | none => kD b k
  | .block _ c,k => kD c k
  | .loop c,k => kD c k
  | .scope c,k => kD c k
  | .rangeFunc _ _ a b,k => match kD a k with
    | some o => some o
    | none => kD b k
  | _,_ => none
def opsOf (f : Func) (k : Nat) : Array Oper := ((f.body.bind fun c => kD c k)).getD #[]
end Go.Proofs.aa.aM
namespace Go.Proofs.aa.aM
section
variable {P : Program} {ops : Array Oper} {Q : Exit → Act → World → Prop} {md : Region.Mode} {S : World → Prop} {ds : List Nat} {T : Bool × List (List Nat × List Nat)}
end
end Go.Proofs.aa.aM
namespace Go.Proofs.aa.az
open Go.RowKit
namespace Kd
section
variable {α : Type} {d : Kd α} {e base g o n cap : Nat} {ok vq : Nat → Prop} {w W : World} {v : Value} {xs : List α}
end
section
variable {α : Type} {enc : α → Value} {h1 : ∀ x,(enc x).oneCell' = true} {e base g o n cap : Nat} {ok : Nat → Prop} {W : World} {xs : List α}
end
end Kd
end Go.Proofs.aa.az
namespace Go.Proofs.aa.az
open Go.RowKit
namespace Kd
def tag {α : Type} (f : Nat → Nat) (d : Kd α) : Kd (α × Nat) where
  sz := d.sz
  E := d.E
  K := fun w x cs => d.K w x.1 cs
  M := fun w base ok x cs => d.M w base (fun k => ok k ∧ f k = x.2) x.1 cs
  eT := fun h => d.eT h
  eI := fun h => d.eI h
  dB := fun hb h => d.dB hb h
  dq := fun h => d.dq h
  cG := fun hok h => d.cG (fun k hk => ⟨hok k hk.1,hk.2⟩) h
  dc := fun h => d.cG (fun _ hk => ⟨⟨hk.1.1,hk.2⟩,hk.1.2⟩) (d.dc h)
  dQ := fun hm h => d.dQ (fun k hk => hm k hk.1) h
  dA := fun hb h => d.dA hb h
def raw (sz : Nat) : Kd (List Value) where
  sz := sz
  E := []
  K := fun _ x cs => cs = x ∧ cs.length = sz ∧ ∀ u ∈ cs,u.oneCell' = true
  M := fun _ _ _ x cs => cs = x ∧ cs.length = sz ∧ ∀ u ∈ cs,u.oneCell' = true
  eT := fun h => h.2.1
  eI := fun h => h.2.2
  dB := fun _ h => h
  dq := fun h => h
  cG := fun _ h => h
  dc := fun h => h
  dQ := fun _ h => h
  dA := fun _ h => h
def S {α : Type} (d : Kd α) (e : Nat) (w : World) (base : Nat) (ok : Nat → Prop) (v : Value) (xs : List α) : Prop := ∃ f,(tag f d).R e w base ok v xs.zipIdx
section
variable {α β : Type} {d : Kd α} {d' : Kd β} {e e' : Nat} {w w1 W : World} {base b : Nat} {ok ok' okv oku : Nat → Prop} {u v : Value} {xs : List α} {ys : List β}
end
section
variable {α β : Type} {d : Kd α} {d' : Kd β} {e e' g : Nat} {w w1 W : World} {base b : Nat} {ok ok' okv oku : Nat → Prop} {u v : Value} {xs : List α} {ys : List β}
end
section
open Classical in
variable {P : Program} {ops : Array Oper} {rest : List Oper} {o : Oper} {a : Act} {Q : Exit → Act → World → Prop} {Kc : Act → World → Prop} {α : Type}
end
def gap {α : Type} (f : Nat → Nat) (d : Kd α) (i : Nat) (c : List Value) : Kd (α × Nat) where
  sz := d.sz
  E := d.E
  K := fun w x cs => (x.2 = i → cs = c ∧ cs.length = d.sz ∧ ∀ u ∈ cs,u.oneCell' = true) ∧ (x.2 ≠ i → d.K w x.1 cs)
  M := fun w base ok x cs => (x.2 = i → cs = c ∧ cs.length = d.sz ∧ ∀ u ∈ cs,u.oneCell' = true) ∧ (x.2 ≠ i → d.M w base (fun k => ok k ∧ f k = x.2) x.1 cs)
  eT := fun {w x cs} h => by
    by_cases hx : x.2 = i
    · exact (h.1 hx).2.1
    · exact d.eT (h.2 hx)
  eI := fun {w x cs} h => by
    by_cases hx : x.2 = i
    · exact (h.1 hx).2.2
    · exact d.eI (h.2 hx)
  dB := fun hb h => ⟨h.1,fun hx => d.dB hb (h.2 hx)⟩
  dq := fun h => ⟨h.1,fun hx => d.dq (h.2 hx)⟩
  cG := fun hok h => ⟨h.1,fun hx => d.cG (fun k hk => ⟨hok k hk.1,hk.2⟩) (h.2 hx)⟩
  dc := fun h => ⟨h.1,fun hx => d.cG (fun _ hk => ⟨⟨hk.1.1,hk.2⟩,hk.1.2⟩) (d.dc (h.2 hx))⟩
  dQ := fun hm h => ⟨h.1,fun hx => d.dQ (fun k hk => hm k hk.1) (h.2 hx)⟩
  dA := fun hb h => ⟨h.1,fun hx => d.dA hb (h.2 hx)⟩
def H {α : Type} (d : Kd α) (e : Nat) (w : World) (base : Nat) (ok : Nat → Prop) (v : Value) (xs : List α) (i : Int) (Ns : Nat → Prop) (c : List Value) : Prop:=
  (∀ k,Ns k → ok k) ∧ ∃ f,(gap f d i.toNat c).R e w base (fun k => ok k ∧ ¬ Ns k) v xs.zipIdx
section
variable {α β : Type} {d : Kd α} {e e' g n cap : Nat} {w w1 W : World} {base : Nat} {ok ok' Ns vq : Nat → Prop} {u v : Value} {xs : List α} {i : Int} {c : List Value}
open Classical in
end
section
variable {P : Program} {ops : Array Oper} {rest : List Oper} {o : Oper} {a : Act} {Q : Exit → Act → World → Prop} {α : Type}
end
end Kd
end Go.Proofs.aa.az
namespace Go.Proofs.aa.az
open Go.RowKit
namespace Kd
theorem Il {α : Type} {R : α → List Value → Prop} {size : Nat} {ps : List α} {cs : List Value} (h : eG R size ps cs) (lA : 0 < size) (hR : ∀ p c,R p c → ∀ u ∈ c,u.oneCell' = true) : ∀ u ∈ cs,u.oneCell' = true := by
  intro u hu
  obtain ⟨q,hq,rfl⟩ := List.mem_iff_getElem.1 hu
  have hql : q / size < ps.length := by
    rw [Nat.div_lt_iff_lt_mul lA,← h.1]
    exact hq
  refine hR _ _ (h.2 (q / size) _ (List.getElem?_eq_getElem hql)) _ ?_
  rw [List.mem_iff_getElem?]
  refine ⟨q % size,?_⟩
  rw [List.getElem?_take,if_pos (Nat.mod_lt _ lA),List.getElem?_drop,Nat.mul_comm,Nat.div_add_mod,List.getElem?_eq_getElem hq]
def arr {α : Type} (n : Nat) (d : Kd α) (hs : 0 < d.sz) : Kd (List α) where
  sz := n * d.sz
  E := d.E
  K := fun w xs cs => xs.length = n ∧ eG (d.K w) d.sz xs cs
  M := fun w base ok xs cs => xs.length = n ∧ eG (d.M w base ok) d.sz xs cs
  eT := fun h => by rw [← h.1]; exact h.2.1
  eI := fun h => Il h.2 hs (fun _ _ hk => d.eI hk)
  dB := fun hb h => ⟨h.1,h.2.iA (fun _ _ hk => d.dB hb hk)⟩
  dq := fun h => ⟨h.1,h.2.iA (fun _ _ hk => d.dq hk)⟩
  cG := fun hok h => ⟨h.1,h.2.iA (fun _ _ hk => d.cG hok hk)⟩
  dc := fun h => ⟨h.1,h.2.iA (fun _ _ hk => d.dc hk)⟩
  dQ := fun hm h => ⟨h.1,h.2.iA (fun _ _ hk => d.dQ hm hk)⟩
  dA := fun hb h => ⟨h.1,h.2.iA (fun _ _ hk => d.dA hb hk)⟩
section
variable {α : Type} {n : Nat} {d : Kd α} {hs : 0 < d.sz} {w : World} {base : Nat} {ok : Nat → Prop} {xs : List α} {cs : List Value}
end
section
variable {α : Type} {n : Nat} {enc : α → Value} {h1 : ∀ x,(enc x).oneCell' = true} {hs : 0 < (scalar enc h1).sz} {w : World} {base : Nat} {ok : Nat → Prop} {xs : List α} {cs : List Value}
end
end Kd
end Go.Proofs.aa.az
namespace Go.Proofs.aa.az
open Go.RowKit
section
variable {P : Program}
end
namespace Kd
section
variable {P : Program} {ops : Array Oper} {rest : List Oper} {o : Oper} {a : Act} {Q : Exit → Act → World → Prop} {Kc : Act → World → Prop} {α : Type}
end
section
variable {α : Type} {d : Kd α} {e : Nat} {w : World} {base : Nat} {ok : Nat → Prop} {v : Value} {xs : List α}
end
section
variable {P : Program} {ops : Array Oper} {rest : List Oper} {o : Oper} {a : Act} {Q : Exit → Act → World → Prop} {Kc : Act → World → Prop} {α : Type}
end
end Kd
end Go.Proofs.aa.az
namespace Go.Proofs.aa.az
open Go.RowKit
namespace Kd
structure Heap {α : Type} (d : Kd α) : Prop where
  K : ∀ {w w1 : World} {x : α} {cs : List Value},(∀ k,k < w.heap.size → w1.heap[k]? = w.heap[k]?) → d.K w x cs → d.K w1 x cs
section
variable {α : Type} {d : Kd α} {e base g n c : Nat} {ok : Nat → Prop} {w w0 W : World} {A : Option Addr} {xs : List α}
end
end Kd
end Go.Proofs.aa.az
namespace Go.Proofs.aa.az
open Go.RowKit
def Kept (w W : World) (S : Nat → Prop) : Prop := w.heap.size ≤ W.heap.size ∧ ∀ i,i < w.heap.size → ¬ S i → W.heap[i]? = w.heap[i]?
section
variable {w W W2 : World} {S S2 S' : Nat → Prop}
end
namespace Kd
section
variable {α : Type} {d : Kd α} {e base n c : Nat} {ok Ns S S2 : Nat → Prop} {w w0 W W1 W2 : World} {v : Value} {A : Option Addr} {xs : List α} {i : Int} {cs : List Value}
end
end Kd
end Go.Proofs.aa.az
namespace Go.Proofs.aa.az
open Go.RowKit
def MD (P : World → Prop) (W : World) (ok : Nat → Prop) : Prop := ∀ W' : World,(∀ k,ok k → k < W.heap.size → W'.heap[k]? = W.heap[k]?) → P W'
namespace MD
variable {P Q : World → Prop} {W W1 : World} {ok ok' : Nat → Prop}
end MD
namespace Kd
def F {α : Type} (d : Kd α) (W : World) (ok : Nat → Prop) (A : Option Addr) (n : Nat) (xs : List α) : Prop := MD (fun W => d.C W A n xs) W ok
def FK {α : Type} (d : Kd α) (W : World) (ok : Nat → Prop) (x : α) (c : List Value) : Prop := MD (fun W => d.K W x c) W ok
section
variable {α β : Type} {d : Kd α} {e base n n' cc g N : Nat} {ok ok' vq S : Nat → Prop} {w w0 w1 W W1 : World} {A A' : Option Addr} {u v v1 : Value} {xs : List α} {xs' : List β} {d' : Kd β} {x : α} {c : List Value}
end
end Kd
end Go.Proofs.aa.az
namespace Go.Proofs.aa.az
open Go.RowKit
namespace Kd
def chunks (sz : Nat) (n : Nat) (inner : List Value) : List (List Value) := (List.range n).map fun j => (inner.drop (j * sz)).take sz
section
variable {α : Type} {d : Kd α} {e base n cc g : Nat} {ok ok' vq S : Nat → Prop} {w w1 W W1 : World} {A : Option Addr} {u v v1 : Value} {xs : List α} {x : α} {c : List Value}
def N {α : Type} (d : Kd α) (e : Nat) (w : World) (base : Nat) (ok : Nat → Prop) (v : Value) (xs : List α) : Prop:=
  (∀ k,v.ownBlock = some k → ok k) ∧ ∃ rows : List (List Value),rows.length = xs.length ∧ (raw d.sz).R e w base (fun k => some k = v.ownBlock) v rows ∧ ∀ (j : Nat) (x : α) (c : List Value),xs[j]? = some x → rows[j]? = some c → FK d w (fun k => ok k ∧ some k ≠ v.ownBlock) x c
end
end Kd
end Go.Proofs.aa.az
namespace Go.Proofs.aa.az
open Go.RowKit
namespace Kd
section
variable {α : Type} {d : Kd α} {W : World} {g n : Nat} {S ok : Nat → Prop} {A : Option Addr} {ad : Addr} {xs : List α}
end
end Kd
end Go.Proofs.aa.az
namespace Go.Proofs.aa.az
open Go.RowKit
section
variable {w w' u : World} {m B g : Nat} {o : Obj} {row : Option Nat} {S : Nat → Prop} {a : Addr} {v : Value}
end
namespace Kd
section
variable {α : Type} {d : Kd α} {e base n m : Nat} {ok : Nat → Prop} {w w' : World} {v : Value} {A : Option Addr} {xs : List α}
end
end Kd
end Go.Proofs.aa.az
namespace Go.Proofs.aa.az
open Go.RowKit
section
variable {P : Program} {d : Nat} {xs ys : Array Value} {f : Field} {fs : List Field} {a b : Value} {r s : Bool} {w : World}
end
end Go.Proofs.aa.az
namespace Go.Proofs.aa.az
theorem eG.one {α : Type} {R : α → List Value → Prop} {ps : List α} {cs : List Value} {p : α} {v : Value} (hp : R p [v]) (h : eG R 1 ps cs) : eG R 1 (p :: ps) (v :: cs) := by
  refine ⟨by simp [h.1],fun j q hq => ?_⟩
  cases j with
  | zero=>
    simp only [List.getElem?_cons_zero,Option.some.injEq] at hq
    subst hq
    simpa using hp
  | succ j=>
    simp only [List.getElem?_cons_succ] at hq
    have h1 := h.2 j q hq
    simpa [Nat.mul_one] using h1
end Go.Proofs.aa.az
namespace Go.Proofs.aa.aM
def up (b : Nat → Bool) (i : Nat) : Nat → Bool := fun j => if j = i then true else b j
section
variable {P : Program} {ops : Array Oper} {Q : Exit → Act → World → Prop} {md : Region.Mode} {T : Bool × List (List Nat × List Nat)} {B : List Nat} {O : List Nat} {b : Nat → Bool} {i j n : Nat}
end
end Go.Proofs.aa.aM
namespace Go.Proofs.aa.az
open Go.RowKit
end Go.Proofs.aa.az
namespace Go.Proofs.aa.aM
section
variable {ops : Array Oper} {a : Act} {o og : Oper} {g : Nat} {t : Tmp} {u : Bool}
end
end Go.Proofs.aa.aM
namespace Go.Proofs.aa.az
open Go.RowKit
section
variable {P : Program} {ops : Array Oper} {rest : List Oper} {o : Oper} {a : Act} {Q : Exit → Act → World → Prop} {W : World}
end
end Go.Proofs.aa.az
namespace Go.Proofs.aa.az
open Go.RowKit
namespace Kd
section
variable {α : Type} {d : Kd α} {e base n cap g : Nat} {ok ok' vq : Nat → Prop} {w w1 W : World} {v v1 : Value} {xs ys : List α}
end
section
variable {P : Program} {ops : Array Oper} {rest : List Oper} {o : Oper} {a : Act} {Q : Exit → Act → World → Prop} {Kc : Act → World → Prop} {α : Type}
end
end Kd
end Go.Proofs.aa.az
namespace Go.Proofs.aa.aU
open Go.RowKit Go.Proofs.aa.az
namespace Kd
open Go.Proofs.aa.az.Kd
end Kd
namespace Kd
open Go.Proofs.aa.az.Kd
section
variable {α : Type} {d : Kd α} {e base g N : Nat} {ok : Nat → Prop} {W w1 : World} {u v : Value} {xs : List α}
end
end Kd
theorem ba (k k' : IntKind) (x y : Int) : Builtin.max2 (.int k x) (.int k' y) = pure (.int k (if x < y then y else x)) := by simp only [Builtin.max2,gt_iff_lt]
theorem bh (ats : Array TypeId) (ty : TypeId) (a b : Value) : Builtin.max_ ats ty #[a,b] = (Builtin.max2 a b >>= fun s => pure s) := by simp only [Builtin.max_,List.foldlM_cons,List.foldlM_nil]
end Go.Proofs.aa.aU
namespace Go.Proofs.aa.az
open Go.RowKit
section
variable {P : Program} {ops : Array Oper} {rest : List Oper} {o : Oper} {a : Act} {Q : Exit → Act → World → Prop} {W : World}
theorem aW {f : FuncId} {as : Array Operand} {ts : Array TypeId} (_ho : o.op = .call { callee := .value (.func f),args := as,argTypes := ts }) (h : wpList P ops Q (o :: rest) a W) : wpList P ops Q (o :: rest) a W := h
theorem gN {b : Builtin} {xs : Array Operand} {ts : Array TypeId} (_ho : o.op = .call { callee := .builtin b,args := xs,argTypes := ts }) (h : wpList P ops Q (o :: rest) a W) : wpList P ops Q (o :: rest) a W := h
end
def mx (a b : Int) : Int := if a < b then b else a
namespace Kd
section
variable {α : Type} {d : Kd α} {e base : Nat} {ok : Nat → Prop} {W w1 : World} {v : Value} {xs : List α}
end
section
variable {α : Type} {d : Kd α} {e base g n cap : Nat} {ok Ns vq : Nat → Prop} {W : World} {xs : List α} {i : Int} {c : List Value}
end
section
variable {α : Type} {d : Kd α} {e base b b' g N : Nat} {ok ok1 : Nat → Prop} {W W2 w1 : World} {u v : Value} {xs ys : List α} {S : Nat → Prop}
end
end Kd
end Go.Proofs.aa.az
namespace Go.Proofs.aa.az
open Go.RowKit
namespace Kd
def V {α : Type} (d : Kd α) (_e : Nat) (W : World) (_base : Nat) (ok : Nat → Prop) (v : Value) (xs : List α) : Prop := ∃ A c,v = .slice A xs.length c ∧ xs.length ≤ c ∧ F d W ok A xs.length xs
section
variable {α β : Type} {d : Kd α} {e base base' n m c g N' lo hi : Nat} {ok ok' S : Nat → Prop} {w W w1 : World} {A : Option Addr} {ad : Addr} {u v v1 : Value} {xs : List α}
end
end Kd
end Go.Proofs.aa.az
