import Derived.Test.YtkdebhgccpfkiaaGreatDoorQKE1
import Derived.Test.YtkdebhgccpfkiaaGreatDoorQKX1
import Derived.Test.YtkdebhgccpfkiaaGreatDoorQKS2
import Derived.Defers
import Derived.Recover
set_option maxRecDepth 100000
set_option maxHeartbeats 16000000
namespace Go.Proofs.YtkdebhgccpfkiaaGreatDoor.ll
open Go Go.RowKit Go.Proofs.YtkdebhgccpfkiaaGreatDoor.au Go.Proofs.aa.az Go.Proofs.aa.aM Go.Proofs.YtkdebhgccpfkiaaGreatDoor.fD Go.Proofs.YtkdebhgccpfkiaaGreatDoor.fO
set_option linter.unusedVariables false
theorem fq (s : ByteArray) (p : Nat) : bl (s.extract p s.size) = (bl s).drop p := by
 rw [fb]; exact List.take_of_length_le (by rw [List.length_drop,bF]; omega)
theorem size_drop (s : ByteArray) (p : Nat) : (s.extract p s.size).size = s.size - p := by
 rw [← bF,fq,List.length_drop,bF]
theorem dN {c : UInt8} (d : UInt8) : (c.toNat : Int) = (d.toNat : Int) ↔ c = d := by
 constructor
 · intro h; exact UInt8.toNat_inj.mp (by exact_mod_cast h)
 · intro h; rw [h]
theorem gn {s : ByteArray} {p : Nat} {c : UInt8} {r : List UInt8} (h : (bl s).drop p = c :: r) : bt s (p : Int) = (c.toNat : Int) := by
 rw [lO]
 have e : (bl s).getD p 0 = ((bl s).drop p).getD 0 0 := by simp [List.getD_eq_getElem?_getD]
 rw [e,h]; rfl
theorem gP {s : ByteArray} {c : UInt8} {r : List UInt8} (h : bl s = c :: r) : bt s 0 = (c.toNat : Int) := gn (s := s) (p := 0) (by rw [List.drop_zero]; exact h)
theorem LL : ∀ n : Fin 256,aj.simple (n.val : Int) = cj (UInt8.ofNat n.val) := by decide +kernel
theorem zT (c : UInt8) : aj.simple (c.toNat : Int) = cj c := by
 have := LL ⟨c.toNat,c.toNat_lt⟩
 simpa using this
theorem U8 {s : ByteArray} {p : Nat} {c : UInt8} {r : List UInt8} (h : (bl s).drop p = c :: r) : p < s.size := by
 have := congrArg List.length h
 rw [List.length_drop,bF] at this
 simp at this; omega
theorem GK {s : ByteArray} {p : Nat} {c : UInt8} {r : List UInt8} (h : (bl s).drop p = c :: r) : (bl s).drop (p + 1) = r := by
 rw [← List.drop_drop,h]; rfl
section
variable (l r : UInt8) (hl : l.toNat < 128) (hr : r.toNat < 128) (KV : l ≠ r)
def cz (l r : UInt8) (y : List UInt8) : Prop := ∀ (s : ByteArray) (pos : Nat) (z : List UInt8) (n : Int),(bl s).drop pos = y ++ z → 1 ≤ n → n + y.length ≤ 4000000000 →
 ∀ res,Ev (fun k => aG.l0 k s (l.toNat : Int) (r.toNat : Int) n (pos + y.length)) res → Ev (fun k => aG.l0 k s (l.toNat : Int) (r.toNat : Int) n pos) res
theorem round {s : ByteArray} {pos : Nat} {c : UInt8} {z : List UInt8} (h : (bl s).drop pos = c :: z) (hc : c.toNat < 128) (L R n : Int) (k : Nat) :
 aG.l0 (k + 1) s L R n pos = if aG.step (c.toNat : Int) L R n = 0 then some (pos : Int) else aG.l0 k s L R (aG.step (c.toNat : Int) L R n) (pos + 1) := by
 have hp := U8 h
 have hb := gn h
 obtain ⟨h1,h2⟩ := O6 s pos hp (by rw [hb]; omega)
 simp only [aG.l0]
 rw [if_pos hp,h1,h2,hb]
theorem MX (l r : UInt8) (n : Int) (h1 : -9000000000 ≤ n) (h2 : n ≤ 9000000000) : aG.step (l.toNat : Int) (l.toNat : Int) (r.toNat : Int) n = n + 1 := by
 unfold aG.step; rw [if_pos rfl,fK (by omega) (by omega)]
theorem MW {l r : UInt8} (KV : l ≠ r) (n : Int) (h1 : -9000000000 ≤ n) (h2 : n ≤ 9000000000) : aG.step (r.toNat : Int) (l.toNat : Int) (r.toNat : Int) n = n - 1 := by
 unfold aG.step; rw [if_neg (fun q => KV ((dN l).mp q).symm),if_pos rfl,fK (by omega) (by omega)]
theorem Yi {l r c : UInt8} (h1 : c ≠ l) (h2 : c ≠ r) (n : Int) : aG.step (c.toNat : Int) (l.toNat : Int) (r.toNat : Int) n = n := by
 unfold aG.step; rw [if_neg (fun q => h1 ((dN l).mp q)),if_neg (fun q => h2 ((dN r).mp q))]
theorem cz.one {l r c : UInt8} (hc : c.toNat < 128) (h1 : c ≠ l) (h2 : c ≠ r) : cz l r [c] := by
 intro s pos z n h hn hb res zY
 refine Ev.step (f := fun k => aG.l0 k s (l.toNat : Int) (r.toNat : Int) n (pos + 1)) (fun k => ?_) zY
 rw [round h hc,Yi h1 h2,if_neg (by omega)]
theorem cz.nil (l r : UInt8) : cz l r [] := fun s pos z n h hn hb res zY => zY
theorem cz.app {l r : UInt8} {x y : List UInt8} (hx : cz l r x) (hy : cz l r y) : cz l r (x ++ y) := by
 intro s pos z n h hn hb res zY
 rw [List.length_append] at hb zY
 refine hx s pos (y ++ z) n (by rw [h,List.append_assoc]) hn (by omega) res ?_
 refine hy s (pos + x.length) z n ?_ hn (by omega) res (by rw [Nat.add_assoc]; exact zY)
 rw [← List.drop_drop,h,List.append_assoc]; simp
theorem cz.wrap {l r : UInt8} (hl : l.toNat < 128) (hr : r.toNat < 128) (KV : l ≠ r) {y : List UInt8} (hy : cz l r y) : cz l r (l :: (y ++ [r])) := by
 intro s pos z n h hn hb res zY
 simp only [List.length_cons,List.length_append,List.length_nil] at hb zY
 have h' : (bl s).drop pos = l :: (y ++ r :: z) := by rw [h]; simp
 refine Ev.step (f := fun k => aG.l0 k s (l.toNat : Int) (r.toNat : Int) (n + 1) (pos + 1)) (fun k => ?_) ?_
 · rw [round h' hl,MX l r n (by omega) (by omega),if_neg (by omega)]
 · have h2 : (bl s).drop (pos + 1) = y ++ r :: z := GK h'
   refine hy s (pos + 1) (r :: z) (n + 1) h2 (by omega) (by omega) res ?_
   have h3 : (bl s).drop (pos + 1 + y.length) = r :: z := by rw [← List.drop_drop,h2]; simp
   refine Ev.step (f := fun k => aG.l0 k s (l.toNat : Int) (r.toNat : Int) n (pos + 1 + y.length + 1)) (fun k => ?_) ?_
   · rw [round h3 hr,MW KV (n + 1) (by omega) (by omega),show n + 1 - 1 = n by omega,if_neg (by omega)]
   · rw [show pos + 1 + y.length + 1 = pos + (y.length + (0 + 1) + 1) by omega]; exact zY
theorem cz.flat {l r : UInt8} : ∀ {xs : List (List UInt8)},(∀ x ∈ xs,cz l r x) → cz l r xs.flatten
 | [],_ => cz.nil l r
 | x :: xs,h => by rw [List.flatten_cons]; exact cz.app (h x List.mem_cons_self) (cz.flat (fun y hy => h y (List.mem_cons_of_mem _ hy)))
end
theorem SY {A B E : Int} {x : List UInt8} (t : T A B E x) : cz 123 125 x ∧ cz 40 41 x := by
 refine T.ind (P := fun A B E x => cz 123 125 x ∧ cz 40 41 x) ?_ ?_ ?_ ?_ t
 · intro A B E c _ _ _ hc
   obtain ⟨ha,_,iv,xH,cd,lg⟩ := eQ c hc
   exact ⟨cz.one ha cd lg,cz.one ha iv xH⟩
 · intro A B E x _ _ _ _ ih
   exact ⟨cz.app (x := [97]) (cz.one (by decide) (by decide) (by decide)) ih.1,cz.app (x := [97]) (cz.one (by decide) (by decide) (by decide)) ih.2⟩
 · intro A B E c x _ _ _ hc _ ih
   obtain ⟨ha,_,iv,xH,cd,lg⟩ := eQ c (by simp [cj,hc])
   refine ⟨?_,?_⟩
   · refine cz.app (x := [97]) (y := 123 :: (c :: x ++ [125])) (cz.one (by decide) (by decide) (by decide)) (cz.wrap (by decide) (by decide) (by decide) (cz.app (x := [c]) (cz.one ha cd lg) ih.1))
   · refine cz.app (x := [97]) (y := 123 :: c :: (x ++ [125])) (cz.one (by decide) (by decide) (by decide)) (cz.app (x := [123]) (y := c :: (x ++ [125])) (cz.one (by decide) (by decide) (by decide)) (cz.app (x := [c]) (y := x ++ [125]) (cz.one ha iv xH) (cz.app ih.2 (cz.one (by decide) (by decide) (by decide)))))
 · intro A B E xs _ _ _ _ _ ih
   refine ⟨?_,cz.wrap (by decide) (by decide) (by decide) (cz.flat (fun x hx => (ih x hx).2))⟩
   exact cz.app (x := [40]) (y := xs.flatten ++ [41]) (cz.one (by decide) (by decide) (by decide)) (cz.app (cz.flat (fun x hx => (ih x hx).1)) (cz.one (by decide) (by decide) (by decide)))
theorem found {l r : UInt8} (hl : l.toNat < 128) (hr : r.toNat < 128) (KV : l ≠ r) {s : ByteArray} {y z : List UInt8} (h : bl s = l :: (y ++ r :: z)) (hs : s.size ≤ 1000000000) (hy : cz l r y) :
 Ev (fun k => aG.f k s (l.toNat : Int) (r.toNat : Int)) ((y.length + 1 : Nat) : Int) := by
 have hlen : s.size = y.length + z.length + 2 := by rw [← bF,h]; simp; omega
 have h0 : (bl s).drop 0 = l :: (y ++ r :: z) := by rw [List.drop_zero]; exact h
 unfold aG.f
 refine Ev.step (f := fun k => aG.l0 k s (l.toNat : Int) (r.toNat : Int) 1 1) (fun k => ?_) ?_
 · rw [round h0 hl,MX l r 0 (by omega) (by omega),if_neg (by omega)]; rfl
 · have h1 : (bl s).drop 1 = y ++ r :: z := GK h0
   refine hy s 1 (r :: z) 1 h1 (by omega) (by omega) _ ?_
   have h3 : (bl s).drop (1 + y.length) = r :: z := by rw [← List.drop_drop,h1]; simp
   refine Ev.step (f := fun _ => some ((y.length + 1 : Nat) : Int)) (fun k => ?_) (Ev.now _)
   rw [round h3 hr,MW KV 1 (by omega) (by omega),if_pos (by omega)]
   congr 1; omega
theorem Hf {a t d : Int} (h1 : a ≤ 32) (h2 : t ≤ 32) (h3 : d ≤ 32) : aj.ok a t d = true := by simp [aj.ok,h1,h2,h3]
theorem Tz {s : ByteArray} {c : UInt8} {q : List UInt8} (h : bl s = c :: q) (hc : cj c = true) {a t d : Int} (h1 : a ≤ 32) (h2 : t ≤ 32) (h3 : d ≤ 32) : Ev (fun k => aj.g k s a t d) (none,s.extract 1 s.size) := by
 have hz : ¬ s.size = 0 := by rw [← bF,h]; simp
 refine Ev.step (f := fun _ => some (none,s.extract 1 s.size)) (fun k => ?_) (Ev.now _)
 simp only [aj.g]
 rw [if_neg hz,Hf h1 h2 h3,if_neg (by decide),gP h,zT,hc,if_pos rfl]
theorem ac3 {s : ByteArray} {q : List UInt8} (h : bl s = 97 :: q) (hq : ∀ r,q ≠ 123 :: r) {a t d : Int} (h1 : a ≤ 32) (h2 : t ≤ 32) (h3 : d ≤ 32) (k : Nat) :
 aj.g (k + 1) s a t d = aj.g k (s.extract 1 s.size) (wrap64 (a + 1)) t d := by
 have hz : s.size = q.length + 1 := by rw [← bF,h]; simp
 simp only [aj.g]
 rw [if_neg (by omega),Hf h1 h2 h3,if_neg (by decide),gP h,zT,show cj 97 = false from by decide,if_neg (by decide),if_pos (by rfl)]
 cases q with
 | nil => simp only [List.length_nil] at hz; rw [if_neg (by omega)]
 | cons c r=>
   simp only [List.length_cons] at hz
   have hb : bt s 1 = (c.toNat : Int) := gn (s := s) (p := 1) (by rw [h]; rfl)
   rw [if_pos (by omega),hb,if_neg (fun e => hq r (by rw [(dN 123).mp e]))]
theorem aak {s : ByteArray} {q : List UInt8} (h : bl s = 97 :: 123 :: q) {a t d : Int} (h1 : a ≤ 32) (h2 : t ≤ 32) (h3 : d ≤ 32) (k : Nat) :
 aj.g (k + 1) s a t d = (aG.f k (s.extract 1 s.size) 123 125).bind fun i => aj.dict k s a t d i := by
 have hz : s.size = q.length + 2 := by rw [← bF,h]; simp
 have hb : bt s 1 = 123 := gn (s := s) (p := 1) (c := 123) (by rw [h]; rfl)
 simp only [aj.g]
 rw [if_neg (by omega),Hf h1 h2 h3,if_neg (by decide),gP h,zT,show cj 97 = false from by decide,if_neg (by decide),if_pos (by rfl),if_pos (by omega),hb,if_pos rfl]
theorem aaj {s : ByteArray} {q : List UInt8} (h : bl s = 40 :: q) {a t d : Int} (h1 : a ≤ 32) (h2 : t ≤ 32) (h3 : d ≤ 32) (k : Nat) :
 aj.g (k + 1) s a t d = (aG.f k s 40 41).bind fun i => aj.open k s a t d i := by
 have hz : s.size = q.length + 1 := by rw [← bF,h]; simp
 simp only [aj.g]
 rw [if_neg (by omega),Hf h1 h2 h3,if_neg (by decide),gP h,zT,show cj 40 = false from by decide,if_neg (by decide),if_neg (by decide),if_pos (by rfl)]
theorem acR (k : Nat) {u : ByteArray} (h : u.size = 0) (r : ByteArray) (a t d : Int) : aj.l (k + 1) none u r a t d = some (none,r) := by
 simp only [aj.l]; rw [if_neg (by decide),if_pos h]
theorem YE (k : Nat) {u : ByteArray} (h : ¬ u.size = 0) (r : ByteArray) (a t d : Int) : aj.l (k + 1) none u r a t d = (aj.g k u a (wrap64 (t + 1)) d).bind fun x => aj.l k x.1 x.2 r a t d := by
 simp only [aj.l]; rw [if_neg (by decide),if_neg h]
theorem takes {A B E : Int} {x : List UInt8} (tt : T A B E x) : ∀ (s : ByteArray) (a t d : Int) (rest : List UInt8),A = 32 - a → B = 32 - t → E = 32 - d → 0 ≤ a → 0 ≤ t → 0 ≤ d → bl s = x ++ rest → s.size ≤ 1000000000 →
 Ev (fun k => aj.g k s a t d) (none,s.extract x.length s.size) := by
 refine T.ind (P := fun A B E x => ∀ (s : ByteArray) (a t d : Int) (rest : List UInt8),A = 32 - a → B = 32 - t → E = 32 - d → 0 ≤ a → 0 ≤ t → 0 ≤ d → bl s = x ++ rest → s.size ≤ 1000000000 →
  Ev (fun k => aj.g k s a t d) (none,s.extract x.length s.size)) ?_ ?_ ?_ ?_ tt
 · intro A B E c hA hB hE hc s a t d rest eA eB eE _ _ _ hb hs
   exact Tz (q := rest) hb hc (by omega) (by omega) (by omega)
 · intro A B E x hA hB hE hx ih s a t d rest eA eB eE ha ht hd hb hs
   obtain ⟨c,r,rfl,cd,_⟩ := hx.head
   have hlen : s.size = r.length + 2 + rest.length := by rw [← bF,hb]; simp; omega
   have hb1 : bl (s.extract 1 s.size) = (c :: r) ++ rest := by rw [fq,hb]; rfl
   have := ih (s.extract 1 s.size) (a + 1) t d rest (by omega) eB eE (by omega) ht hd hb1 (by rw [size_drop]; omega)
   refine Ev.step (fun k => ac3 (q := c :: (r ++ rest)) hb (fun q e => by simp at e; exact cd e.1) (by omega) (by omega) (by omega) k) ?_
   rw [fK (by omega) (by omega)]
   have e : (s.extract 1 s.size).extract (c :: r).length (s.extract 1 s.size).size = s.extract (97 :: c :: r).length s.size := by
    apply gQ; rw [fq,fq,fq,List.drop_drop]; congr 1; simp; omega
   rw [e] at this
   exact this
 · intro A B E c x hA hB hE hc hx ih s a t d rest eA eB eE ha ht hd hb hs
   obtain ⟨Bw,Jb,Tm⟩ := hx.pos
   have hb' : bl s = 97 :: 123 :: (c :: x ++ 125 :: rest) := by rw [hb]; simp
   have hlen : s.size = x.length + 4 + rest.length := by rw [← bF,hb]; simp; omega
   have hb1 : bl (s.extract 1 s.size) = 123 :: ((c :: x) ++ 125 :: rest) := by rw [fq,hb']; rfl
   have hoc : cj c = true := by simp [cj,hc]
   obtain ⟨Oy,_,_,_,cd,lg⟩ := eQ c hoc
   have hf := found (l := 123) (r := 125) (by decide) (by decide) (by decide) hb1 (by rw [size_drop]; omega) (cz.app (x := [c]) (cz.one Oy cd lg) (SY hx).1)
   simp only [List.length_cons] at hf
   refine Ev.step (fun k => aak hb' (by omega) (by omega) (by omega) k) (Ev.bind (a := ((x.length + 1 + 1 : Nat) : Int)) hf ?_)
   have e1 : (((x.length + 1 + 1 : Nat) : Int) + 1).toNat = x.length + 3 := by omega
   have e2 : (((x.length + 1 + 1 : Nat) : Int) + 1 + 1).toNat = x.length + 4 := by omega
   have hu : bl (s.extract 2 (x.length + 3)) = c :: x := by
    rw [fb,hb', show x.length + 3 - 2 = x.length + 1 by omega]; simp
   have Gm : (s.extract 2 (x.length + 3)).size = x.length + 1 := by rw [← bF,hu]; rfl
   have hk : bl ((s.extract 2 (x.length + 3)).extract 0 1) = [c] := by rw [fb,hu]; rfl
   have hv : bl ((s.extract 2 (x.length + 3)).extract 1 (s.extract 2 (x.length + 3)).size) = x := by rw [fq,hu]; rfl
   have k1 := Tz (q := []) (a := a + 1) (t := t) (d := d + 1) hk hoc (by omega) (by omega) (by omega)
   have k2 := ih ((s.extract 2 (x.length + 3)).extract 1 (s.extract 2 (x.length + 3)).size) (a + 1) t (d + 1) [] (by omega) eB (by omega) (by omega) ht (by omega) (by rw [hv]; simp) (by rw [size_drop,Gm]; omega)
   refine Ev.step (f := fun k => (aj.g k ((s.extract 2 (x.length + 3)).extract 0 1) (a + 1) t (d + 1)).bind fun x_1=>
    if x_1.1.isSome = true then some (x_1.1,⟨#[]⟩) else
    (aj.g k ((s.extract 2 (x.length + 3)).extract 1 (s.extract 2 (x.length + 3)).size) (a + 1) t (d + 1)).bind fun y=>
    if y.1.isSome = true then some (y.1,⟨#[]⟩) else
    if y.2.size = 0 then some (none,s.extract (x.length + 4) s.size)
    else some (aj.er (s.extract 2 (x.length + 3)) ⟨#[116,111,111,32,109,97,110,121,32,116,121,112,101,115,32,105,110,32,100,105,99,116]⟩,⟨#[]⟩)) (fun k => ?_) ?_
   · simp only [aj.dict]
     rw [if_neg (by omega),if_pos ⟨by omega,by omega,by omega⟩,e1,e2,if_neg (by omega),fK (x := a + 1) (by omega) (by omega),fK (x := d + 1) (by omega) (by omega)]
   · refine Ev.bind k1 (aV (show ¬ (false = true) by decide) (fun _ => rfl) (Ev.bind k2 (aV (show ¬ (false = true) by decide) (fun _ => rfl) (aE ?_ (fun _ => rfl) ?_))))
     · show (((s.extract 2 (x.length + 3)).extract 1 (s.extract 2 (x.length + 3)).size).extract x.length ((s.extract 2 (x.length + 3)).extract 1 (s.extract 2 (x.length + 3)).size).size).size = 0
       rw [size_drop,size_drop,Gm]; omega
     · rw [show (97 :: 123 :: c :: (x ++ [125])).length = x.length + 4 by simp]; exact Ev.now _
 · intro A B E xs hA hB hE hn hx ih s a t d rest eA eB eE ha ht hd hb hs
   have hb' : bl s = 40 :: (xs.flatten ++ 41 :: rest) := by rw [hb]; simp
   have hlen : s.size = xs.flatten.length + 2 + rest.length := by rw [← bF,hb]; simp; omega
   have hf := found (l := 40) (r := 41) (by decide) (by decide) (by decide) hb' hs (cz.flat (fun x h => (SY (hx x h)).2))
   have ahX : t + 1 ≤ 32 := by
    cases xs with
    | nil => exact absurd rfl hn
    | cons x xs => have := (hx x List.mem_cons_self).pos; omega
   refine Ev.step (fun k => aaj hb' (by omega) (by omega) (by omega) k) (Ev.bind (a := ((xs.flatten.length + 1 : Nat) : Int)) hf ?_)
   have e1 : (((xs.flatten.length + 1 : Nat) : Int)).toNat = xs.flatten.length + 1 := by omega
   have e2 : (((xs.flatten.length + 1 : Nat) : Int) + 1).toNat = xs.flatten.length + 2 := by omega
   refine Ev.step (f := fun k => aj.l k none (s.extract 1 (xs.flatten.length + 1)) (s.extract (xs.flatten.length + 2) s.size) a t d) (fun k => ?_) ?_
   · simp only [aj.open]
     rw [if_neg (by omega),if_pos ⟨by omega,by omega,by omega⟩,e1,e2]
   · have hu : bl (s.extract 1 (xs.flatten.length + 1)) = xs.flatten := by rw [fb,hb', Nat.add_sub_cancel]; simp
     have Gm : (s.extract 1 (xs.flatten.length + 1)).size ≤ 1000000000 := by rw [← bF,hu]; omega
     have er : (40 :: (xs.flatten ++ [41])).length = xs.flatten.length + 2 := by simp
     rw [er]
     generalize s.extract (xs.flatten.length + 2) s.size = rr
     generalize s.extract 1 (xs.flatten.length + 1) = u at hu Gm ⊢
     clear hf hb hb' hlen e1 e2 er hn
     induction xs generalizing u with
     | nil => exact Ev.step (f := fun _ => some (none,rr)) (fun k => acR k (by rw [← bF,hu]; rfl) rr a t d) (Ev.now _)
     | cons x xs ihx=>
       have hxl := (hx x List.mem_cons_self).len
       rw [List.flatten_cons] at hu
       refine Ev.step (fun k => YE k (by rw [← bF,hu,List.length_append]; omega) rr a t d) ?_
       have h1 := ih x List.mem_cons_self u a (t + 1) d xs.flatten eA (by omega) eE ha (by omega) hd hu Gm
       rw [fK (x := t + 1) (by omega) (by omega)]
       refine Ev.bind h1 ?_
       refine ihx (fun y hy => hx y (List.mem_cons_of_mem _ hy)) (fun y hy => ih y (List.mem_cons_of_mem _ hy)) (u.extract x.length u.size) ?_ (by rw [size_drop]; omega)
       rw [fq,hu]; simp
end Go.Proofs.YtkdebhgccpfkiaaGreatDoor.ll
namespace Go.Proofs.YtkdebhgccpfkiaaGreatDoor.au
open Go.RowKit Go.Proofs.aa.az Go.Proofs.aa.aM Go.Proofs.aa.aU
attribute [local go_sem] ba bh
set_option linter.unusedVariables false
set_option linter.unusedSimpArgs false
open Go.Proofs.YtkdebhgccpfkiaaGreatDoor.fD Go.Proofs.YtkdebhgccpfkiaaGreatDoor.fO Go.Proofs.YtkdebhgccpfkiaaGreatDoor.gw
theorem JF : lh none = Value.nilIface := rfl
theorem Rl (x rest : List UInt8) (hx : T 32 32 32 x) (hl : (x ++ rest).length ≤ 100000) (w : World) : Calls Tryz.prog 107 #[.string (Bs (x ++ rest))] w fun e w' => e = .returned (.tuple #[.string (Bs x),.string (Bs rest)]) ∧ Below w.heap.size w w' := by
 obtain ⟨K,hK⟩ := ll.takes hx (Bs (x ++ rest)) 0 0 0 rest rfl rfl rfl (by omega) (by omega) (by omega) (fH _) (by rw [aZ]; omega)
 have hk := hK K (Nat.le_refl _)
 rw [jm,List.drop_left] at hk
 have Cl := aj.core K (Bs (x ++ rest)) w.heap.size 0 0 0 none (Bs rest) (w.alloc (.cells #[.int .i64 0,.int .i64 0,.int .i64 0] 95)) (by simp) (by simp) (by simp) hk
 have hcut : (Bs (x ++ rest)).extract 0 x.length = Bs x := by rw [ld]; simp
 have hlen : (((Bs (x ++ rest)).size : Int)) - ((Bs rest).size : Int) = (x.length : Int) := by rw [aZ,aZ,List.length_append]; omega
 have hwl : IntKind.i64.wrap (((Bs (x ++ rest)).size : Int) - ((Bs rest).size : Int)) = (x.length : Int) := by rw [hlen,IntKind.wrap_i64]; rw [List.length_append] at hl; omega
 have h1 : ((x.length : Int) ≤ ((Bs (x ++ rest)).size : Int)) = True := eq_true (by rw [aZ,List.length_append]; omega)
 have h2 : (x.length ≤ (Bs (x ++ rest)).size) = True := eq_true (by rw [aZ,List.length_append]; omega)
 rw [JF] at Cl
 have HC := U.mk Cl
 clear Cl hk hK hlen
 go_enter Tryz.func107,Tryz.ntmps107
 go_wp2_with fail
 refine HC.out.mono ?_
 rintro e1 w2 ⟨rfl,hb⟩
 have HB := U.mk (aw (ab (Below.refl w.heap.size w) _) hb)
 clear hb
 go_wp2_with fail
 go_ret2
 exact ⟨rfl,HB.out⟩
theorem PX : ∀ n : Fin 256,cj (UInt8.ofNat n.val) = true → cx.f (n.val : Int) = some (Bs [UInt8.ofNat n.val],true) := by decide +kernel
theorem LD (c : UInt8) (h : cj c = true) : cx.f (c.toNat : Int) = some (Bs [c],true) := by
 have := PX ⟨c.toNat,c.toNat_lt⟩
 simp only [UInt8.ofNat_toNat] at this
 exact this h
def DT (l t : List UInt8) : Prop := ∀ w,Calls Tryz.prog 90 #[.string (Bs l)] w fun e w' => e = .returned (.string (Bs t)) ∧ Below w.heap.size w w'
theorem yO (c : UInt8) (r : List UInt8) : ∀ h : 0 < (Bs (c :: r)).size,(((Bs (c :: r))[0]'h).toNat : Int) = (c.toNat : Int) := fun h => by
 have h2 := bq (Bs (c :: r)) 0 h
 rw [J5] at h2
 exact h2
theorem LW (c d : UInt8) (r : List UInt8) : ∀ h : 1 < (Bs (c :: d :: r)).size,(((Bs (c :: d :: r))[1]'h).toNat : Int) = (d.toNat : Int) := fun h => by
 have h2 := bq (Bs (c :: d :: r)) 1 h
 have h3 := MF (c :: d :: r) 1
 rw [show ((1 : Nat) : Int) = 1 from rfl] at h3
 rw [h3] at h2
 exact h2
theorem O2 (c : UInt8) (hc : cj c = true) : DT [c] [c] := by
 intro w
 have ZH := (eQ c hc).2
 have q1 : (0 < (Bs [c]).size) = True := eq_true (by rw [aZ]; simp)
 have q2 : ((0 : Int) < ((Bs [c]).size : Int)) = True := eq_true (by rw [aZ]; simp)
 have n1 : (((c.toNat : Nat) : Int) == 97) = false := beq_eq_false_iff_ne.mpr (jU ZH.1)
 have n2 : (((c.toNat : Nat) : Int) == 40) = false := beq_eq_false_iff_ne.mpr (jU ZH.2.1)
 have hz := LD c hc
 obtain ⟨s,hs⟩ : ∃ s,Bs [c] = s := ⟨_,rfl⟩
 have hi : ∀ h : 0 < s.size,((s[0]'h).toNat : Int) = (c.toNat : Int) := by subst hs; exact yO c []
 simp only [hs] at q1 q2 hz ⊢
 generalize (c.toNat : Int) = C at *
 have HZ := U.mk hz
 clear hz ZH hs
 go_enter Tryz.func90,Tryz.ntmps90
 go_wp2_with fail
 refine (cx.calls _ _ _ _ HZ.out).mono ?_
 rintro e1 w2 ⟨rfl,k1,rfl⟩
 go_wp2_with fail
 go_ret
 exact ⟨rfl,ai (Below.refl _ _) _⟩
theorem Ih (y : List UInt8) (hl : y.length ≤ 100000) : ef.f (Bs y) = some (Bs (91 :: y)) := by
 unfold ef.f
 rw [if_pos (by rw [aZ]; omega)]
 exact congrArg some (fc [91] y)
theorem NA (c : UInt8) (y : List UInt8) (hl : y.length ≤ 100000) : eY.f (Bs [c]) (Bs y) = some (Bs (123 :: c :: y)) := by
 unfold eY.f
 rw [if_pos (by rw [aZ]; simp only [List.length_singleton]; omega)]
 have e1 : (⟨#[123]⟩ : ByteArray) ++ Bs [c] = Bs [123,c] := fc [123] [c]
 rw [e1,if_pos (by rw [aZ,aZ]; simp only [List.length_cons,List.length_nil]; omega),fc]
 rfl
theorem aaN (d : UInt8) (x y : List UInt8) (hd : d ≠ 123) (hl : y.length ≤ 100000) (hx : x.length ≤ 100000) (ih : DT (d :: x) y) : DT (97 :: d :: x) (91 :: y) := by
 intro w
 have n1 : (((d.toNat : Nat) : Int) == 123) = false := beq_eq_false_iff_ne.mpr (jU hd)
 have hcut : (Bs (97 :: d :: x)).extract 1 (Bs (97 :: d :: x)).size = Bs (d :: x) := by rw [jm]; rfl
 have cN : (Bs (97 :: d :: x)).size = x.length + 2 := by rw [aZ]; rfl
 obtain ⟨s,hs⟩ : ∃ s,Bs (97 :: d :: x) = s := ⟨_,rfl⟩
 have hi : ∀ h : 0 < s.size,((s[0]'h).toNat : Int) = 97 := by subst hs; exact yO 97 (d :: x)
 have hj : ∀ h : 1 < s.size,((s[1]'h).toNat : Int) = (d.toNat : Int) := by subst hs; exact LW 97 d x
 simp only [hs] at hcut cN ⊢
 have q1 : (0 < s.size) = True := eq_true (by omega)
 have q2 : ((0 : Int) < (s.size : Int)) = True := eq_true (by omega)
 have q3 : (1 < s.size) = True := eq_true (by omega)
 have q4 : ((1 : Int) < (s.size : Int)) = True := eq_true (by omega)
 have q5 : decide ((1 : Int) < (s.size : Int)) = true := decide_eq_true (by omega)
 have q6 : (1 ≤ s.size) = True := eq_true (by omega)
 have q7 : ((1 : Int) ≤ (s.size : Int)) = True := eq_true (by omega)
 have HS := U.mk (Ih y hl)
 have IH := U.mk ih
 clear hs cN ih
 go_enter Tryz.func90,Tryz.ntmps90
 go_wp2_with fail
 refine (IH.out _).mono ?_
 rintro e1 w2 ⟨rfl,hb⟩
 have HB := U.mk hb
 clear hb
 go_wp2_with fail
 refine (ef.calls _ _ _ HS.out).mono ?_
 rintro e1 w3 ⟨rfl,k1,rfl⟩
 go_wp2_with fail
 go_ret
 exact ⟨rfl,ai HB.out _⟩
theorem Ll (c : UInt8) (x y : List UInt8) (hc : cj c = true) (hl : y.length ≤ 100000) (hx : x.length ≤ 100000) (ih : DT x y) : DT (97 :: 123 :: c :: (x ++ [125])) (123 :: c :: y) := by
 intro w
 have acX : (Bs (97 :: 123 :: c :: (x ++ [125]))).extract 2 3 = Bs [c] := by rw [ld]; rfl
 have Tr : (Bs (97 :: 123 :: c :: (x ++ [125]))).extract 3 (x.length + 3) = Bs x := by rw [ld]; simp
 have cN : (Bs (97 :: 123 :: c :: (x ++ [125]))).size = x.length + 4 := by rw [aZ]; simp
 obtain ⟨s,hs⟩ : ∃ s,Bs (97 :: 123 :: c :: (x ++ [125])) = s := ⟨_,rfl⟩
 have hi : ∀ h : 0 < s.size,((s[0]'h).toNat : Int) = 97 := by subst hs; exact yO 97 _
 have hj : ∀ h : 1 < s.size,((s[1]'h).toNat : Int) = 123 := by subst hs; exact LW 97 123 _
 simp only [hs] at acX Tr cN ⊢
 have q1 : (0 < s.size) = True := eq_true (by omega)
 have q2 : ((0 : Int) < (s.size : Int)) = True := eq_true (by omega)
 have q3 : (1 < s.size) = True := eq_true (by omega)
 have q4 : ((1 : Int) < (s.size : Int)) = True := eq_true (by omega)
 have q5 : decide ((1 : Int) < (s.size : Int)) = true := decide_eq_true (by omega)
 have q6 : (3 ≤ s.size) = True := eq_true (by omega)
 have q7 : ((3 : Int) ≤ (s.size : Int)) = True := eq_true (by omega)
 obtain ⟨e,he⟩ : ∃ e,x.length + 3 = e := ⟨_,rfl⟩
 rw [he] at Tr
 have hw : IntKind.i64.wrap ((s.size : Int) - 1) = (e : Int) := by rw [IntKind.wrap_i64]; omega
 have q8 : ((3 : Int) ≤ (e : Int)) = True := eq_true (by omega)
 have q9 : ((e : Int) ≤ (s.size : Int)) = True := eq_true (by omega)
 have zx : (3 ≤ e) = True := eq_true (by omega)
 have D5 : (e ≤ s.size) = True := eq_true (by omega)
 have HM := U.mk (NA c y hl)
 have IH := U.mk ih
 have IK := U.mk (O2 c hc)
 clear hs cN ih he hc
 go_enter Tryz.func90,Tryz.ntmps90
 go_wp2_with fail
 go_region_held3 (fun _ => True) (trivial) (first
  | (go_at_call 90; have h5 := HB; refine (IH.out _).mono ?_; rintro e1 w3 ⟨rfl,hb⟩; have bU := U.mk (aw HB.out hb); clear hb)
  | (go_at_call 90; refine (IK.out _).mono ?_; rintro e1 w2 ⟨rfl,hb⟩; have HB := U.mk (aw (w := w) (by first | exact Below.refl _ _ | exact ak (Below.refl _ _)) hb); clear hb)
  | (go_at_call 54; refine (eY.calls _ _ _ _ HM.out).mono ?_; rintro e1 w4 ⟨rfl,k1,rfl⟩))
 go_wp2
 go_ret
 exact ⟨rfl,by repeat (first | exact bU.out | apply ai | apply ak)⟩
theorem aaM (zs : List (List UInt8 × List UInt8)) (hT : ∀ z ∈ zs,T 32 32 32 z.1) (hl : (zs.map Prod.fst).flatten.length ≤ 50000) (hl2 : (zs.map Prod.snd).flatten.length ≤ 50000) (ih : ∀ z ∈ zs,DT z.1 z.2) : DT (40 :: ((zs.map Prod.fst).flatten ++ [41])) (40 :: ((zs.map Prod.snd).flatten ++ [41])) := by
 intro w
 have hcut : (Bs (40 :: ((zs.map Prod.fst).flatten ++ [41]))).extract 1 ((zs.map Prod.fst).flatten.length + 1) = Bs (zs.map Prod.fst).flatten := by rw [ld]; simp
 have cN : (Bs (40 :: ((zs.map Prod.fst).flatten ++ [41]))).size = (zs.map Prod.fst).flatten.length + 2 := by rw [aZ]; simp
 obtain ⟨s,hs⟩ : ∃ s,Bs (40 :: ((zs.map Prod.fst).flatten ++ [41])) = s := ⟨_,rfl⟩
 have hi : ∀ h : 0 < s.size,((s[0]'h).toNat : Int) = 40 := by subst hs; exact yO 40 _
 simp only [hs] at hcut cN ⊢
 have q1 : (0 < s.size) = True := eq_true (by omega)
 have q2 : ((0 : Int) < (s.size : Int)) = True := eq_true (by omega)
 obtain ⟨e,he⟩ : ∃ e,(zs.map Prod.fst).flatten.length + 1 = e := ⟨_,rfl⟩
 rw [he] at hcut
 have hw : IntKind.i64.wrap ((s.size : Int) - 1) = (e : Int) := by rw [IntKind.wrap_i64]; omega
 have q8 : ((1 : Int) ≤ (e : Int)) = True := eq_true (by omega)
 have q9 : ((e : Int) ≤ (s.size : Int)) = True := eq_true (by omega)
 have zx : (1 ≤ e) = True := eq_true (by omega)
 have D5 : (e ≤ s.size) = True := eq_true (by omega)
 have IH := U.mk ih
 have HT := U.mk hT
 clear hs cN ih he hT
 go_enter Tryz.func90,Tryz.ntmps90
 go_wp2_with fail
 go_loopg [3,4] zs.length (fun kq v3 v4 wr => ∃ (i : Nat),v3 = .string (Bs (40 :: (List.take i (zs.map Prod.snd)).flatten)) ∧ v4 = .string (Bs (List.drop i (zs.map Prod.fst)).flatten) ∧ i ≤ zs.length ∧ U (kq = zs.length - i ∧ Below w.heap.size w wr))
 case atStart => exact ⟨0,by first | rfl | simp,by first | rfl | simp,by omega,⟨rfl,Below.refl _ _⟩⟩
 case round=>
  obtain ⟨i,rfl,rfl,hi,HI⟩ := hrel
  have fP := U.mk HI.out.1
  by_cases hlt : i < zs.length
  · obtain ⟨z,hz⟩ : ∃ z,zs[i]? = some z := ⟨zs[i],List.getElem?_eq_getElem hlt⟩
    have xv := List.mem_of_getElem? hz
    have Jp : (List.drop i (zs.map Prod.fst)).flatten = z.1 ++ (List.drop (i + 1) (zs.map Prod.fst)).flatten := by
     rw [List.drop_eq_getElem_cons (by rw [List.length_map]; exact hlt),List.flatten_cons]
     congr 1
     rw [List.getElem_map]
     rw [List.getElem?_eq_getElem hlt] at hz
     rw [Option.some.inj hz]
    have I1 : (List.take (i + 1) (zs.map Prod.snd)).flatten = (List.take i (zs.map Prod.snd)).flatten ++ z.2 := by
     rw [List.take_add_one,List.getElem?_map,hz]; simp
    have hdl : (List.drop i (zs.map Prod.fst)).flatten.length ≤ 50000 := by
     have h1 : (List.drop i (zs.map Prod.fst)).flatten.length ≤ (zs.map Prod.fst).flatten.length := by
      conv => rhs; rw [← List.take_append_drop i (zs.map Prod.fst)]
      rw [List.flatten_append,List.length_append]; omega
     omega
    have lz : (List.take (i + 1) (zs.map Prod.snd)).flatten.length ≤ 50000 := by
     have h1 : (List.take (i + 1) (zs.map Prod.snd)).flatten.length ≤ (zs.map Prod.snd).flatten.length := by
      conv => rhs; rw [← List.take_append_drop (i + 1) (zs.map Prod.snd)]
      rw [List.flatten_append,List.length_append]; omega
     omega
    have yQ : Bs (40 :: (List.take i (zs.map Prod.snd)).flatten) ++ Bs z.2 = Bs (40 :: (List.take (i + 1) (zs.map Prod.snd)).flatten) := by rw [fc,I1]; rfl
    have QW : (9223372036854775807 < (Bs (40 :: (List.take i (zs.map Prod.snd)).flatten)).size + (Bs z.2).size) = False := eq_false (by
     rw [I1,List.length_append] at lz
     rw [aZ,aZ,List.length_cons]; omega)
    have Q0 := Rl z.1 (List.drop (i + 1) (zs.map Prod.fst)).flatten (HT.out z xv) (by rw [← Jp]; omega)
    rw [← Jp] at Q0
    have hne : ((Bs (List.drop i (zs.map Prod.fst)).flatten).toList == ([] : List UInt8)) = false := by
     rw [ch,fH]
     refine beq_eq_false_iff_ne.mpr fun e => ?_
     have h1 := (HT.out z xv).len
     rw [Jp] at e
     have h2 := congrArg List.length e
     rw [List.length_append,List.length_nil] at h2
     omega
    have HO := U.mk Q0
    have HD := U.mk (IH.out z xv)
    clear Q0 hz xv Jp I1 hdl lz
    go_wp2_with fail
    refine (HO.out _).mono ?_
    rintro e1 w2 ⟨rfl,hb⟩
    have cO := U.mk (aw HI.out.2 hb)
    clear hb
    go_wp2_with fail
    refine (HD.out _).mono ?_
    rintro e1 w3 ⟨rfl,hb⟩
    have bU := U.mk (aw cO.out hb)
    clear hb
    go_wp2_with fail
    go_roundg (zs.length - (i + 1))
    case measure => have := fP.out; omega
    case rel => exact ⟨i + 1,by first | rfl | simp,by first | rfl | simp,by omega,⟨rfl,bU.out⟩⟩
  · have vz : List.take i (zs.map Prod.snd) = zs.map Prod.snd := List.take_of_length_le (by rw [List.length_map]; omega)
    have hde : (List.drop i (zs.map Prod.fst)).flatten = [] := by rw [List.drop_eq_nil_of_le (by rw [List.length_map]; omega)]; rfl
    rw [vz,hde]
    have hne : ((Bs []).toList == ([] : List UInt8)) = true := by rw [ch,fH]; rfl
    have yQ : Bs (40 :: (zs.map Prod.snd).flatten) ++ (⟨#[41]⟩ : ByteArray) = Bs (40 :: ((zs.map Prod.snd).flatten ++ [41])) := fc (40 :: (zs.map Prod.snd).flatten) [41]
    have QW : (9223372036854775807 < (Bs (40 :: (zs.map Prod.snd).flatten)).size + 1) = False := eq_false (by rw [aZ,List.length_cons]; omega)
    clear vz hde
    go_wp2_with fail
    go_ret
    exact ⟨rfl,HI.out.2⟩
theorem aaL {A B E : Int} {l t : List UInt8} (z : Z A B E l t) : A ≤ 32 → B ≤ 32 → E ≤ 32 → l.length ≤ 255 → DT l t := by
 refine Z.ind (P := fun A B E l t => A ≤ 32 → B ≤ 32 → E ≤ 32 → l.length ≤ 255 → DT l t) ?_ ?_ ?_ ?_ z
 · intro A B E c h1 h2 h3 hc _ _ _ _
   exact O2 c hc
 · intro A B E x y h1 h2 h3 hz ih ha hb he hl
   obtain ⟨d,r,rfl,hd,_⟩ := hz.t.head
   have hlen := hz.len
   simp only [List.length_cons] at hl hlen
   exact aaN d r y hd (by omega) (by omega) (ih (by omega) hb he (by rw [List.length_cons]; omega))
 · intro A B E c x y h1 h2 h3 hc hz ih ha hb he hl
   have hlen := hz.len
   simp only [List.length_cons,List.length_append,List.length_nil] at hl
   exact Ll c x y (FC hc) (by omega) (by omega) (ih (by omega) hb (by omega) (by omega))
 · intro A B E zs h1 h2 h3 hn hz ih ha hb he hl
   have KR := KG zs hz
   simp only [List.length_cons,List.length_append,List.length_nil] at hl
   refine aaM zs (fun z xv => (hz z xv).t.more ha (by omega) he) (by omega) (by omega) fun z xv => ?_
   have := Kr zs z xv
   exact ih z xv ha (by omega) he (by omega)
theorem DY (l : List UInt8) (hT : T 32 32 32 l) (hl : l.length ≤ 1000) (w : World) : Calls Tryz.prog 51 #[.string (Bs l),.pointer (some ⟨w.heap.size,0,none⟩)] (w.alloc (.cells #[.int .i64 0,.int .i64 0,.int .i64 0] 95)) fun e w' => e = .returned (.tuple #[.nilIface,.string (Bs [])]) ∧ Below w.heap.size w w' := by
 obtain ⟨K,hK⟩ := ll.takes hT (Bs (l ++ [])) 0 0 0 [] rfl rfl rfl (by omega) (by omega) (by omega) (fH _) (by rw [aZ]; simp; omega)
 have hk := hK K (Nat.le_refl _)
 rw [jm,List.drop_left] at hk
 have Cl := aj.core K (Bs (l ++ [])) w.heap.size 0 0 0 none (Bs []) (w.alloc (.cells #[.int .i64 0,.int .i64 0,.int .i64 0] 95)) (by simp) (by simp) (by simp) hk
 rw [JF,List.append_nil] at Cl
 refine Cl.mono ?_
 rintro e1 w2 ⟨rfl,hb⟩
 exact ⟨rfl,aw (ab (Below.refl w.heap.size w) _) hb⟩
theorem DZ (c : UInt8) (hc : cj c = true) (w : World) : Calls Tryz.prog 39 #[.string (Bs [c])] w fun e w' => e = .returned (.string (Bs [c])) ∧ Below w.heap.size w w' := by
 have HV := U.mk (DY [c] (T.one (by omega) (by omega) (by omega) hc) (by simp) w)
 have hz := LD c hc
 have cN : (Bs [c]).size = 1 := by rw [aZ]; rfl
 obtain ⟨s,hs⟩ : ∃ s,Bs [c] = s := ⟨_,rfl⟩
 have hi : ∀ h : 0 < s.size,((s[0]'h).toNat : Int) = (c.toNat : Int) := by subst hs; exact yO c []
 simp only [hs] at hz HV cN ⊢
 generalize (c.toNat : Int) = C at *
 have q1 : (0 < s.size) = True := eq_true (by omega)
 have q2 : ((0 : Int) < (s.size : Int)) = True := eq_true (by omega)
 have HZ := U.mk hz
 clear hz hs cN
 go_enter Tryz.func39,Tryz.ntmps39
 go_wp2_with fail
 refine HV.out.mono ?_
 rintro e1 w2 ⟨rfl,hb⟩
 have HB := U.mk hb
 clear hb
 go_wp2_with fail
 refine (cx.calls _ _ _ _ HZ.out).mono ?_
 rintro e1 w3 ⟨rfl,k1,rfl⟩
 go_wp2_with fail
 go_ret
 exact ⟨rfl,ai HB.out _⟩
theorem Nb : cx.f 97 = some (⟨#[]⟩,false) := by decide +kernel
theorem Yp : cx.f 40 = some (⟨#[]⟩,false) := by decide +kernel
theorem acB (w : World) : Calls Tryz.prog 39 #[.string (Bs [97,115])] w fun e w' => e = .returned (.string (Bs [91,115])) ∧ Below w.heap.size w w' := by
 have HV := U.mk (DY [97,115] (T.arr (by omega) (by omega) (by omega) (T.one (by omega) (by omega) (by omega) (by decide))) (by simp) w)
 have hcut : (Bs [97,115]).extract 1 (Bs [97,115]).size = Bs [115] := by rw [jm]; rfl
 have cN : (Bs [97,115]).size = 2 := by rw [aZ]; rfl
 obtain ⟨s,hs⟩ : ∃ s,Bs [97,115] = s := ⟨_,rfl⟩
 have hi : ∀ h : 0 < s.size,((s[0]'h).toNat : Int) = 97 := by subst hs; exact yO 97 _
 have hj : ∀ h : 1 < s.size,((s[1]'h).toNat : Int) = 115 := by subst hs; exact LW 97 115 _
 simp only [hs] at hcut HV cN ⊢
 have q1 : (0 < s.size) = True := eq_true (by omega)
 have q2 : ((0 : Int) < (s.size : Int)) = True := eq_true (by omega)
 have q3 : (1 < s.size) = True := eq_true (by omega)
 have q4 : ((1 : Int) < (s.size : Int)) = True := eq_true (by omega)
 have q6 : (1 ≤ s.size) = True := eq_true (by omega)
 have q7 : ((1 : Int) ≤ (s.size : Int)) = True := eq_true (by omega)
 have HS := U.mk (Ih [115] (by simp))
 have HT := U.mk (DZ 115 (by decide))
 clear hs cN
 go_enter Tryz.func39,Tryz.ntmps39
 go_wp2_with fail
 refine HV.out.mono ?_
 rintro e1 w2 ⟨rfl,hb⟩
 have HB := U.mk hb
 clear hb
 go_wp2_with fail
 refine (cx.calls _ _ _ _ Nb).mono ?_
 rintro e1 w3 ⟨rfl,k1,rfl⟩
 go_wp2_with fail
 refine (HT.out _).mono ?_
 rintro e1 w4 ⟨rfl,hb⟩
 have gy := U.mk (aw (ai HB.out _) hb)
 clear hb
 go_wp2_with fail
 refine (ef.calls _ _ _ HS.out).mono ?_
 rintro e1 w5 ⟨rfl,k2,rfl⟩
 go_wp2_with fail
 go_ret
 exact ⟨rfl,ai gy.out _⟩
theorem acA (w : World) : Calls Tryz.prog 39 #[.string (Bs [40,121,41])] w fun e w' => e = .returned (.string ⟨#[91,42]⟩) ∧ Below w.heap.size w w' := by
 have HV := U.mk (DY [40,121,41] (T.str (xs := [[121]]) (by omega) (by omega) (by omega) (by simp) (fun x hx => by rw [List.mem_singleton.1 hx]; exact T.one (by omega) (by omega) (by omega) (by decide))) (by simp) w)
 have cN : (Bs [40,121,41]).size = 3 := by rw [aZ]; rfl
 obtain ⟨s,hs⟩ : ∃ s,Bs [40,121,41] = s := ⟨_,rfl⟩
 have hi : ∀ h : 0 < s.size,((s[0]'h).toNat : Int) = 40 := by subst hs; exact yO 40 _
 simp only [hs] at HV cN ⊢
 have q1 : (0 < s.size) = True := eq_true (by omega)
 have q2 : ((0 : Int) < (s.size : Int)) = True := eq_true (by omega)
 clear hs cN
 go_enter Tryz.func39,Tryz.ntmps39
 go_wp2_with fail
 refine HV.out.mono ?_
 rintro e1 w2 ⟨rfl,hb⟩
 have HB := U.mk hb
 clear hb
 go_wp2_with fail
 refine (cx.calls _ _ _ _ Yp).mono ?_
 rintro e1 w3 ⟨rfl,k1,rfl⟩
 go_wp2_with fail
 go_ret
 exact ⟨rfl,ai HB.out _⟩
theorem Yd (w : World) : Calls Tryz.prog 39 #[.string (Bs [97,123,121,115,125])] w fun e w' => e = .returned (.string (Bs [123,121,115])) ∧ Below w.heap.size w w' := by
 have HV := U.mk (DY [97,123,121,115,125] (T.dict (x := [115]) (by omega) (by omega) (by omega) (by decide) (T.one (by omega) (by omega) (by omega) (by decide))) (by simp) w)
 have hcut : (Bs [97,123,121,115,125]).extract 3 4 = Bs [115] := by rw [ld]; rfl
 have cN : (Bs [97,123,121,115,125]).size = 5 := by rw [aZ]; rfl
 have hla : fE.f 40 (Bs [97,123,121,115,125]) 125 = some 4 := by decide +kernel
 obtain ⟨s,hs⟩ : ∃ s,Bs [97,123,121,115,125] = s := ⟨_,rfl⟩
 have hi : ∀ h : 0 < s.size,((s[0]'h).toNat : Int) = 97 := by subst hs; exact yO 97 _
 have hj : ∀ h : 1 < s.size,((s[1]'h).toNat : Int) = 123 := by subst hs; exact LW 97 123 _
 have hk : ∀ h : 2 < s.size,((s[2]'h).toNat : Int) = 121 := by subst hs; decide +kernel
 simp only [hs] at hcut HV cN hla ⊢
 have q1 : (0 < s.size) = True := eq_true (by omega)
 have q2 : ((0 : Int) < (s.size : Int)) = True := eq_true (by omega)
 have q3 : (1 < s.size) = True := eq_true (by omega)
 have q4 : ((1 : Int) < (s.size : Int)) = True := eq_true (by omega)
 have q5 : (2 < s.size) = True := eq_true (by omega)
 have q6 : ((2 : Int) < (s.size : Int)) = True := eq_true (by omega)
 have q7 : (4 ≤ s.size) = True := eq_true (by omega)
 have q8 : ((4 : Int) ≤ (s.size : Int)) = True := eq_true (by omega)
 have HL := U.mk hla
 have HM := U.mk (NA 121 [115] (by simp))
 have HT := U.mk (DZ 115 (by decide))
 have HZ := U.mk (LD 121 (by decide))
 clear hs cN hla
 go_enter Tryz.func39,Tryz.ntmps39
 go_wp2_with fail
 refine HV.out.mono ?_
 rintro e1 w2 ⟨rfl,hb⟩
 have HB := U.mk hb
 clear hb
 go_wp2_with fail
 refine (cx.calls _ _ _ _ Nb).mono ?_
 rintro e1 w3 ⟨rfl,k1,rfl⟩
 go_wp2_with fail
 refine (fE.calls _ _ _ _ _ HL.out).mono ?_
 rintro e1 w4 ⟨rfl,k2,rfl⟩
 go_wp2_with fail
 refine (cx.calls _ _ _ _ HZ.out).mono ?_
 rintro e1 w5 ⟨rfl,k3,rfl⟩
 go_wp2_with fail
 refine (HT.out _).mono ?_
 rintro e1 w6 ⟨rfl,hb⟩
 have HB6 := U.mk (aw (ai HB.out _) hb)
 clear hb
 go_wp2_with fail
 refine (eY.calls _ _ _ _ HM.out).mono ?_
 rintro e1 w7 ⟨rfl,k4,rfl⟩
 go_wp2_with fail
 go_ret
 exact ⟨rfl,ai HB6.out _⟩
theorem Rf (p : Addr) (w : World) : CallsD Tryz.prog 37 #[.pointer (some p)] .returning w fun e u' w' => e = .returned (.tuple #[]) ∧ u' = .returning ∧ w' = w := by
 refine callsD_of_wpS Tryz.func37 rfl fun c₀ cs hu => ?_
 apply wpS_seq
 apply wpS_region
 simp [wpOpsS,go_sem,recoverD,hu,Tryz.ntmps37,Exit.thenS]
 refine wpS_cond (t := false) (by simp [Act.eval,Array.replicate]) ?_
 simp only [Bool.false_eq_true,if_false]
 refine wpS_of_wp (wp_skip ?_)
 cases c₀
 simp_all [bodyPostS,results,Tryz.results37]
theorem aaR {w w4 : World} {b : Bool} (hc0 : w4.cell? ⟨w.heap.size,0,none⟩ = some (.bool false)) (hB : Below w.heap.size w w4) :
 (w4.setCell ⟨w.heap.size,0,none⟩ (.bool b)).cell? ⟨w.heap.size,0,none⟩ = some (.bool b) ∧ Below w.heap.size w (w4.setCell ⟨w.heap.size,0,none⟩ (.bool b)):=
 ⟨World.cell?_setCell_same _ _ _ hc0,hB.setCell (by show w.heap.size ≤ w.heap.size; omega) _⟩
theorem Rm (l : List UInt8) (t : ByteArray) (b : Bool) (hb : dm.f 40 t = some b) (Ol : ∀ W,Calls Tryz.prog 39 #[.string (Bs l)] W fun e w' => e = .returned (.string t) ∧ Below W.heap.size W w') (w : World) :
 Calls Tryz.prog 20 #[.string (Bs l)] w fun e w' => e = .returned (.bool b) ∧ Below w.heap.size w w' := by
 have jO : ∀ (fn : Fn) (first cap : Array Value) (w : World),(Instr.makeFunc fn first cap).run Tryz.prog w = .ok (.func fn first cap) w := fun _ _ _ _ => rfl
 have cO := U.mk (ab (Below.refl w.heap.size w) (.cells #[.bool false] 4))
 have L0 := U.mk (heap_alloc_new w (.cells #[.bool false] 4))
 have HK := U.mk hb
 have HT := U.mk Ol
 clear hb Ol
 go_enter_defers Tryz.func20,Tryz.ntmps20
 go_wp2_with fail
 generalize w.alloc (.cells #[.bool false] 4) = W2 at *
 refine (HT.out W2).mono ?_
 rintro e1 W4 ⟨rfl,hb⟩
 have gy := U.mk (aw cO.out hb)
 have M0 := U.mk (aQ hb L0.out)
 clear hb
 go_wp2_with fail
 refine (dm.calls _ _ _ _ HK.out).mono ?_
 rintro e1 W5 ⟨rfl,n,rfl⟩
 have BI := ai gy.out n
 have c0 : (W4.drewN n).cell? ⟨w.heap.size,0,none⟩ = some (.bool false) := (cell_of_row W4 w.heap.size 0 _ 4 (0,0) M0.out).trans rfl
 have f0 : (W4.drewN n).frozen? ⟨w.heap.size,0,none⟩ = false := frozen_of_row W4 w.heap.size 0 _ 4 M0.out
 generalize W4.drewN n = W6 at *
 have HD := U.mk (aaR (b := b) c0 BI)
 clear BI
 go_wp2_with fail
 obtain ⟨d6,bH⟩ := HD.out
 refine leaves_cons (f := 37) (args := #[.pointer (some ⟨w.heap.size,0,none⟩)]) (by simp) (by simp [go_sem]) ?_
 refine (Rf _ _).mono ?_
 rintro e u' w'' ⟨rfl,rfl,hw⟩
 rw [← hw] at d6 bH
 clear hw
 simp [Leaves,settle,results,Tryz.results20,go_sem,d6]
 exact bH
theorem vk (l : List UInt8) (t : ByteArray) (b : Bool) (hb : dm.f 40 t = some b) (Ol : ∀ W,Calls Tryz.prog 39 #[.string (Bs l)] W fun e w' => e = .returned (.string t) ∧ Below W.heap.size W w') (w : World) :
 Calls Tryz.prog 13 #[.string (Bs l)] w fun e w' => e = .returned (.bool b) ∧ Below w.heap.size w w' := by
 have HK := U.mk (Rm l t b hb Ol w)
 clear hb Ol
 go_enter Tryz.func13,Tryz.ntmps13
 go_wp2_with fail
 refine HK.out.mono ?_
 rintro e1 W4 ⟨rfl,hb⟩
 have HB := U.mk hb
 clear hb
 go_wp2_with fail
 go_ret
 exact ⟨rfl,HB.out⟩
theorem NX : ∀ n : Fin 256,fJ (UInt8.ofNat n.val) = true → dm.f 40 (Bs [UInt8.ofNat n.val]) = some true := by decide +kernel
theorem Y6 (c : UInt8) (h : fJ c = true) : dm.f 40 (Bs [c]) = some true := by
 have := NX ⟨c.toNat,c.toNat_lt⟩
 simp only [UInt8.ofNat_toNat] at this
 exact this h
theorem QE {c : UInt8} (h : fJ c = true) : cj c = true := by
 simp only [fJ,Bool.and_eq_true] at h
 simp [cj,h.1.1]
theorem Yo (c : UInt8) (h : fJ c = true) (w : World) : Calls Tryz.prog 13 #[.string (Bs [c])] w fun e w' => e = .returned (.bool true) ∧ Below w.heap.size w w' :=
 vk [c] (Bs [c]) true (Y6 c h) (DZ c (QE h)) w
theorem aeu (w : World) : Calls Tryz.prog 13 #[.string (Bs [118])] w fun e w' => e = .returned (.bool false) ∧ Below w.heap.size w w' :=
 vk [118] (Bs [118]) false (by decide +kernel) (DZ 118 (by decide)) w
theorem acG (w : World) : Calls Tryz.prog 13 #[.string (Bs [97,115])] w fun e w' => e = .returned (.bool false) ∧ Below w.heap.size w w' :=
 vk [97,115] (Bs [91,115]) false (by decide +kernel) acB w
theorem acF (w : World) : Calls Tryz.prog 13 #[.string (Bs [40,121,41])] w fun e w' => e = .returned (.bool false) ∧ Below w.heap.size w w' :=
 vk [40,121,41] ⟨#[91,42]⟩ false (by decide +kernel) acA w
theorem Yn (w : World) : Calls Tryz.prog 13 #[.string (Bs [97,123,121,115,125])] w fun e w' => e = .returned (.bool false) ∧ Below w.heap.size w w' :=
 vk [97,123,121,115,125] (Bs [123,121,115]) false (by decide +kernel) Yd w
end Go.Proofs.YtkdebhgccpfkiaaGreatDoor.au
