import Derived.Test.YtkdebhgccpfkiaaGreatDoorQKW
import Derived.Lib.Strings
import Derived.Laws.RangeAny
import Derived.Test.YtkdebhgccpfkiaaGreatDoorProg
import Derived.Below
import Derived.Deep.Draws
import Derived.Deep.AppendLies
import Derived.Maps.AppendAt
import Derived.OwnWalk
import Derived.Laws.BytesArg
import Derived.Laws.MakeOwn
import Derived.Laws.OwnMore
import Derived.Deep.OwnRows
import Derived.Tactics
import Derived.Lib.ConvBytes
import Derived.Laws.Slices
import Derived.WalkKit
import Derived.KernelRfl
import Derived.RowKit3
import Derived.Deep.LoopGhost
import Derived.Deep.QuietTactic
import Derived.BigQuiet
import Derived.WideLaws
import Derived.Deep.DeepCutAuto
import Derived.Deep.CutBlock
import Derived.Deep.RegionHeld3
import Derived.Laws.Rows
import Derived.Lib.AppendStr
import Derived.ArgAppend
import Derived.Laws.IdiomCopy
import Derived.OrdersHeld
import Derived.Laws.BitsLemmas
import Derived.RowKit
import Derived.Lib.OthersKept
set_option maxRecDepth 100000
set_option maxHeartbeats 16000000
namespace Go.Proofs.YtkdebhgccpfkiaaGreatDoor.fD
open Go Go.RowKit Go.Proofs.aa.az Go.Proofs.aa.aM
set_option linter.unusedVariables false
def bl (s : ByteArray) : List UInt8 := s.data.toList
theorem bF (s : ByteArray) : (bl s).length = s.size := rfl
theorem gQ {s t : ByteArray} (h : bl s = bl t) : s = t := by
 cases s; cases t; simp only [bl] at h; congr 1; exact Array.toList_inj.mp h
theorem fK {x : Int} (h1 : -9223372036854775808 ≤ x) (h2 : x ≤ 9223372036854775807) : wrap64 x = x := by unfold wrap64; omega
theorem ch (s : ByteArray) : s.toList = bl s := ByteArray.toList_eq s
theorem fb (s : ByteArray) (a b : Nat) : bl (s.extract a b) = ((bl s).drop a).take (b - a) := Lib.extract_data s a b
theorem dg (s t : ByteArray) : bl (s ++ t) = bl s ++ bl t := by simp [bl,ByteArray.data_append]
theorem JO (s : ByteArray) (i : Nat) (h : i < (bl s).length) : bt s (i : Int) = (((bl s)[i]'h).toNat : Int) := by
 have hi : ((i : Int).toNat) < s.size := h
 have h2 : i < s.size := h
 unfold bt
 rw [dif_pos hi]
 simp only [Int.toNat_natCast]
 rfl
theorem abc (s : ByteArray) (i : Nat) (h : ¬ i < (bl s).length) : bt s (i : Int) = 0 := by
 have hi : ¬ ((i : Int).toNat) < s.size := h
 unfold bt
 rw [dif_neg hi]
theorem lO (s : ByteArray) (i : Nat) : bt s (i : Int) = (((bl s).getD i 0).toNat : Int) := by
 by_cases h : i < (bl s).length
 · rw [JO s i h]; simp [List.getD_eq_getElem?_getD,List.getElem?_eq_getElem h]
 · rw [abc s i h]; simp [List.getD_eq_getElem?_getD,List.getElem?_eq_none (Nat.not_lt.mp h)]
theorem TW (s : ByteArray) (i : Nat) (h : i < s.size) : bt s (i : Int) = ((s[i]'h).toNat : Int) := (bq s (i : Int) h).symm
theorem O6 (s : ByteArray) (i : Nat) (h : i < s.size) (hb : bt s (i : Int) < 128) : (((Utf8.decode s i).1 : Nat) : Int) = bt s (i : Int) ∧ (Utf8.decode s i).2 = 1 := by
 rw [TW s i h] at hb ⊢
 rw [Go.decode_ascii s i h (by omega)]
 exact ⟨rfl,rfl⟩
theorem aaT (s : ByteArray) (i : Nat) (h : i < s.size) (hb : 128 ≤ bt s (i : Int)) : 128 ≤ (((Utf8.decode s i).1 : Nat) : Int) ∧ 1 ≤ (Utf8.decode s i).2 := by
 rw [TW s i h] at hb
 have := Go.decode_high s i h (by omega)
 exact ⟨by omega,this.2⟩
theorem ji (s : ByteArray) : s.toList = ([] : List UInt8) ↔ s.size = 0 := by
 rw [ch,← bF]; exact List.length_eq_zero_iff.symm
theorem aE {α : Type} {g f h : Nat → Option α} {c : Prop} [Decidable c] {r : α} (hc : c) (hg : ∀ k,g k = if c then f k else h k) (hf : Ev f r) : Ev g r:=
 Ev.congr (fun k => by rw [hg,if_pos hc]) hf
theorem aV {α : Type} {g f h : Nat → Option α} {c : Prop} [Decidable c] {r : α} (hc : ¬ c) (hg : ∀ k,g k = if c then f k else h k) (hf : Ev h r) : Ev g r:=
 Ev.congr (fun k => by rw [hg,if_neg hc]) hf
theorem Qq (s : ByteArray) (i : Nat) (h : i < s.size) (c : UInt8) : (s.extract i (i + 1)).toList = [c] ↔ bt s (i : Int) = (c.toNat : Int) := by
 have hl : i < (bl s).length := h
 rw [ch,fb,JO s i hl]
 have e : ((bl s).drop i).take (i + 1 - i) = [(bl s)[i]] := by
  rw [show i + 1 - i = 1 by omega,List.drop_eq_getElem_cons hl]; rfl
 rw [e]
 constructor
 · intro h; injection h with h1; rw [h1]
 · intro h; congr 1; exact UInt8.toNat_inj.mp (by exact_mod_cast h)
end Go.Proofs.YtkdebhgccpfkiaaGreatDoor.fD
namespace Go.Proofs.YtkdebhgccpfkiaaGreatDoor.fO
open Go
set_option linter.unusedVariables false
def dy (c : UInt8) : Bool := c == 121 || c == 98 || c == 110 || c == 113 || c == 105 || c == 117 || c == 120 || c == 116 || c == 100 || c == 115 || c == 111 || c == 103 || c == 104
def cj (c : UInt8) : Bool := dy c || c == 118
def TF : Nat → Int → Int → Int → List UInt8 → Prop
 | 0,_,_,_,_ => False
 | n + 1,A,B,E,l => 0 ≤ A ∧ 0 ≤ B ∧ 0 ≤ E ∧
   ((∃ c,cj c = true ∧ l = [c]) ∨ (∃ x,TF n (A - 1) B E x ∧ l = 97 :: x) ∨
    (∃ c x,dy c = true ∧ TF n (A - 1) B (E - 1) x ∧ l = 97 :: 123 :: c :: (x ++ [125])) ∨
    (∃ xs : List (List UInt8),xs ≠ [] ∧ (∀ x ∈ xs,TF n A (B - 1) E x) ∧ l = 40 :: (xs.flatten ++ [41])))
def T (A B E : Int) (l : List UInt8) : Prop := ∃ n,TF n A B E l
theorem TF.succ {n : Nat} : ∀ {A B E : Int} {l : List UInt8},TF n A B E l → TF (n + 1) A B E l := by
 induction n with
 | zero => intro A B E l h; exact h.elim
 | succ n ih=>
   intro A B E l h
   obtain ⟨h1,h2,h3,h⟩ := h
   refine ⟨h1,h2,h3,?_⟩
   rcases h with h | ⟨x,hx,e⟩ | ⟨c,x,hc,hx,e⟩ | ⟨xs,hn,hx,e⟩
   · exact .inl h
   · exact .inr (.inl ⟨x,ih hx,e⟩)
   · exact .inr (.inr (.inl ⟨c,x,hc,ih hx,e⟩))
   · exact .inr (.inr (.inr ⟨xs,hn,fun x h => ih (hx x h),e⟩))
theorem TF.le {n m : Nat} (h : n ≤ m) {A B E : Int} {l : List UInt8} (t : TF n A B E l) : TF m A B E l := by
 induction h with
 | refl => exact t
 | step _ ih => exact ih.succ
theorem T.pos {A B E : Int} {l : List UInt8} (t : T A B E l) : 0 ≤ A ∧ 0 ≤ B ∧ 0 ≤ E := by
 obtain ⟨n,t⟩ := t
 cases n with
 | zero => exact t.elim
 | succ n => exact ⟨t.1,t.2.1,t.2.2.1⟩
theorem T.one {A B E : Int} (hA : 0 ≤ A) (hB : 0 ≤ B) (hE : 0 ≤ E) {c : UInt8} (h : cj c = true) : T A B E [c] := ⟨1,hA,hB,hE,.inl ⟨c,h,rfl⟩⟩
theorem T.arr {A B E : Int} (hA : 0 ≤ A) (hB : 0 ≤ B) (hE : 0 ≤ E) {x : List UInt8} (t : T (A - 1) B E x) : T A B E (97 :: x) := by
 obtain ⟨n,t⟩ := t
 exact ⟨n + 1,hA,hB,hE,.inr (.inl ⟨x,t,rfl⟩)⟩
theorem T.dict {A B E : Int} (hA : 0 ≤ A) (hB : 0 ≤ B) (hE : 0 ≤ E) {c : UInt8} (h : dy c = true) {x : List UInt8} (t : T (A - 1) B (E - 1) x) : T A B E (97 :: 123 :: c :: (x ++ [125])) := by
 obtain ⟨n,t⟩ := t
 exact ⟨n + 1,hA,hB,hE,.inr (.inr (.inl ⟨c,x,h,t,rfl⟩))⟩
theorem T.all {A B E : Int} : ∀ {xs : List (List UInt8)},(∀ x ∈ xs,T A B E x) → ∃ n,∀ x ∈ xs,TF n A B E x
 | [],_ => ⟨0,fun _ h => by cases h⟩
 | x :: xs,h => by
   obtain ⟨n,hn⟩ := T.all (fun y hy => h y (List.mem_cons_of_mem _ hy))
   obtain ⟨m,hm⟩ := h x List.mem_cons_self
   refine ⟨max n m,fun y hy => ?_⟩
   rcases List.mem_cons.mp hy with rfl | hy
   · exact hm.le (Nat.le_max_right _ _)
   · exact (hn y hy).le (Nat.le_max_left _ _)
theorem T.str {A B E : Int} (hA : 0 ≤ A) (hB : 0 ≤ B) (hE : 0 ≤ E) {xs : List (List UInt8)} (hn : xs ≠ []) (h : ∀ x ∈ xs,T A (B - 1) E x) : T A B E (40 :: (xs.flatten ++ [41])) := by
 obtain ⟨n,t⟩ := T.all h
 exact ⟨n + 1,hA,hB,hE,.inr (.inr (.inr ⟨xs,hn,t,rfl⟩))⟩
theorem T.cases {A B E : Int} {l : List UInt8} (t : T A B E l) : 0 ≤ A ∧ 0 ≤ B ∧ 0 ≤ E ∧
 ((∃ c,cj c = true ∧ l = [c]) ∨ (∃ x,T (A - 1) B E x ∧ l = 97 :: x) ∨
  (∃ c x,dy c = true ∧ T (A - 1) B (E - 1) x ∧ l = 97 :: 123 :: c :: (x ++ [125])) ∨
  (∃ xs : List (List UInt8),xs ≠ [] ∧ (∀ x ∈ xs,T A (B - 1) E x) ∧ l = 40 :: (xs.flatten ++ [41]))) := by
 obtain ⟨n,t⟩ := t
 cases n with
 | zero => exact t.elim
 | succ n=>
   obtain ⟨h1,h2,h3,h⟩ := t
   refine ⟨h1,h2,h3,?_⟩
   rcases h with h | ⟨x,hx,e⟩ | ⟨c,x,hc,hx,e⟩ | ⟨xs,hn,hx,e⟩
   · exact .inl h
   · exact .inr (.inl ⟨x,⟨n,hx⟩,e⟩)
   · exact .inr (.inr (.inl ⟨c,x,hc,⟨n,hx⟩,e⟩))
   · exact .inr (.inr (.inr ⟨xs,hn,fun x h => ⟨n,hx x h⟩,e⟩))
theorem T.ind {P : Int → Int → Int → List UInt8 → Prop}
 (one : ∀ A B E c,0 ≤ A → 0 ≤ B → 0 ≤ E → cj c = true → P A B E [c])
 (arr : ∀ A B E x,0 ≤ A → 0 ≤ B → 0 ≤ E → T (A - 1) B E x → P (A - 1) B E x → P A B E (97 :: x))
 (dict : ∀ A B E c x,0 ≤ A → 0 ≤ B → 0 ≤ E → dy c = true → T (A - 1) B (E - 1) x → P (A - 1) B (E - 1) x → P A B E (97 :: 123 :: c :: (x ++ [125])))
 (str : ∀ A B E (xs : List (List UInt8)),0 ≤ A → 0 ≤ B → 0 ≤ E → xs ≠ [] → (∀ x ∈ xs,T A (B - 1) E x) → (∀ x ∈ xs,P A (B - 1) E x) → P A B E (40 :: (xs.flatten ++ [41])))
 {A B E : Int} {l : List UInt8} (t : T A B E l) : P A B E l := by
 obtain ⟨n,t⟩ := t
 induction n generalizing A B E l with
 | zero => exact t.elim
 | succ n ih=>
   obtain ⟨h1,h2,h3,h⟩ := t
   rcases h with ⟨c,hc,rfl⟩ | ⟨x,hx,rfl⟩ | ⟨c,x,hc,hx,rfl⟩ | ⟨xs,hn,hx,rfl⟩
   · exact one A B E c h1 h2 h3 hc
   · exact arr A B E x h1 h2 h3 ⟨n,hx⟩ (ih hx)
   · exact dict A B E c x h1 h2 h3 hc ⟨n,hx⟩ (ih hx)
   · exact str A B E xs h1 h2 h3 hn (fun x h => ⟨n,hx x h⟩) (fun x h => ih (hx x h))
theorem eQ : ∀ c : UInt8,cj c = true → c.toNat < 128 ∧ c ≠ 97 ∧ c ≠ 40 ∧ c ≠ 41 ∧ c ≠ 123 ∧ c ≠ 125 := by
 intro c h
 simp only [cj,dy,Bool.or_eq_true,beq_iff_eq] at h
 rcases h with (((((((((((((h | h) | h) | h) | h) | h) | h) | h) | h) | h) | h) | h) | h) | h) <;> subst h <;> decide
theorem T.head {A B E : Int} {l : List UInt8} (t : T A B E l) : ∃ c r,l = c :: r ∧ c ≠ 123 ∧ c ≠ 41 ∧ c ≠ 125 := by
 obtain ⟨_,_,_,h⟩ := t.cases
 rcases h with ⟨c,hc,rfl⟩ | ⟨x,hx,rfl⟩ | ⟨c,x,hc,hx,rfl⟩ | ⟨xs,hn,hx,rfl⟩
 · obtain ⟨_,_,_,xH,cd,lg⟩ := eQ c hc
   exact ⟨c,[],rfl,cd,xH,lg⟩
 · exact ⟨97,x,rfl,by decide,by decide,by decide⟩
 · exact ⟨97,_,rfl,by decide,by decide,by decide⟩
 · exact ⟨40,_,rfl,by decide,by decide,by decide⟩
theorem T.len {A B E : Int} {l : List UInt8} (t : T A B E l) : 0 < l.length := by
 obtain ⟨c,r,rfl,_⟩ := t.head
 simp
theorem T.more {A B E : Int} {l : List UInt8} (t : T A B E l) : ∀ {A' B' E' : Int},A ≤ A' → B ≤ B' → E ≤ E' → T A' B' E' l := by
 refine T.ind (P := fun A B E l => ∀ {A' B' E' : Int},A ≤ A' → B ≤ B' → E ≤ E' → T A' B' E' l) ?_ ?_ ?_ ?_ t
 · intro A B E c h1 h2 h3 hc A' B' E' a b e; exact T.one (by omega) (by omega) (by omega) hc
 · intro A B E x h1 h2 h3 _ ih A' B' E' a b e; exact T.arr (by omega) (by omega) (by omega) (ih (by omega) (by omega) (by omega))
 · intro A B E c x h1 h2 h3 hc _ ih A' B' E' a b e; exact T.dict (by omega) (by omega) (by omega) hc (ih (by omega) (by omega) (by omega))
 · intro A B E xs h1 h2 h3 hn _ ih A' B' E' a b e; exact T.str (by omega) (by omega) (by omega) hn (fun x hx => ih x hx (by omega) (by omega) (by omega))
end Go.Proofs.YtkdebhgccpfkiaaGreatDoor.fO
namespace Go.Proofs.YtkdebhgccpfkiaaGreatDoor.gw
open Go Go.Proofs.YtkdebhgccpfkiaaGreatDoor.fO Go.Proofs.YtkdebhgccpfkiaaGreatDoor.fD
set_option linter.unusedVariables false
def fJ (c : UInt8) : Bool := dy c && !(c == 98) && !(c == 103)
def ZF : Nat → Int → Int → Int → List UInt8 → List UInt8 → Prop
 | 0,_,_,_,_,_ => False
 | n + 1,A,B,E,l,t => 0 ≤ A ∧ 0 ≤ B ∧ 0 ≤ E ∧
   ((∃ c,cj c = true ∧ l = [c] ∧ t = [c]) ∨ (∃ x y,ZF n (A - 1) B E x y ∧ l = 97 :: x ∧ t = 91 :: y) ∨
    (∃ c x y,fJ c = true ∧ ZF n (A - 1) B (E - 1) x y ∧ l = 97 :: 123 :: c :: (x ++ [125]) ∧ t = 123 :: c :: y) ∨
    (∃ zs : List (List UInt8 × List UInt8),zs ≠ [] ∧ (∀ z ∈ zs,ZF n A (B - 1) E z.1 z.2) ∧ l = 40 :: ((zs.map Prod.fst).flatten ++ [41]) ∧ t = 40 :: ((zs.map Prod.snd).flatten ++ [41])))
def Z (A B E : Int) (l t : List UInt8) : Prop := ∃ n,ZF n A B E l t
theorem ZF.succ {n : Nat} : ∀ {A B E : Int} {l t : List UInt8},ZF n A B E l t → ZF (n + 1) A B E l t := by
 induction n with
 | zero => intro A B E l t h; exact h.elim
 | succ n ih=>
   intro A B E l t h
   obtain ⟨h1,h2,h3,h⟩ := h
   refine ⟨h1,h2,h3,?_⟩
   rcases h with h | ⟨x,y,hx,e⟩ | ⟨c,x,y,hc,hx,e⟩ | ⟨zs,hn,hx,e⟩
   · exact .inl h
   · exact .inr (.inl ⟨x,y,ih hx,e⟩)
   · exact .inr (.inr (.inl ⟨c,x,y,hc,ih hx,e⟩))
   · exact .inr (.inr (.inr ⟨zs,hn,fun z h => ih (hx z h),e⟩))
theorem ZF.le {n m : Nat} (h : n ≤ m) {A B E : Int} {l t : List UInt8} (z : ZF n A B E l t) : ZF m A B E l t := by
 induction h with
 | refl => exact z
 | step _ ih => exact ih.succ
theorem Z.pos {A B E : Int} {l t : List UInt8} (z : Z A B E l t) : 0 ≤ A ∧ 0 ≤ B ∧ 0 ≤ E := by
 obtain ⟨n,z⟩ := z
 cases n with
 | zero => exact z.elim
 | succ n => exact ⟨z.1,z.2.1,z.2.2.1⟩
theorem Z.ind {P : Int → Int → Int → List UInt8 → List UInt8 → Prop}
 (one : ∀ A B E c,0 ≤ A → 0 ≤ B → 0 ≤ E → cj c = true → P A B E [c] [c])
 (arr : ∀ A B E x y,0 ≤ A → 0 ≤ B → 0 ≤ E → Z (A - 1) B E x y → P (A - 1) B E x y → P A B E (97 :: x) (91 :: y))
 (dict : ∀ A B E c x y,0 ≤ A → 0 ≤ B → 0 ≤ E → fJ c = true → Z (A - 1) B (E - 1) x y → P (A - 1) B (E - 1) x y → P A B E (97 :: 123 :: c :: (x ++ [125])) (123 :: c :: y))
 (str : ∀ A B E (zs : List (List UInt8 × List UInt8)),0 ≤ A → 0 ≤ B → 0 ≤ E → zs ≠ [] → (∀ z ∈ zs,Z A (B - 1) E z.1 z.2) → (∀ z ∈ zs,P A (B - 1) E z.1 z.2) → P A B E (40 :: ((zs.map Prod.fst).flatten ++ [41])) (40 :: ((zs.map Prod.snd).flatten ++ [41])))
 {A B E : Int} {l t : List UInt8} (z : Z A B E l t) : P A B E l t := by
 obtain ⟨n,z⟩ := z
 induction n generalizing A B E l t with
 | zero => exact z.elim
 | succ n ih=>
   obtain ⟨h1,h2,h3,h⟩ := z
   rcases h with ⟨c,hc,rfl,rfl⟩ | ⟨x,y,hx,rfl,rfl⟩ | ⟨c,x,y,hc,hx,rfl,rfl⟩ | ⟨zs,hn,hx,rfl,rfl⟩
   · exact one A B E c h1 h2 h3 hc
   · exact arr A B E x y h1 h2 h3 ⟨n,hx⟩ (ih hx)
   · exact dict A B E c x y h1 h2 h3 hc ⟨n,hx⟩ (ih hx)
   · exact str A B E zs h1 h2 h3 hn (fun x h => ⟨n,hx x h⟩) (fun x h => ih (hx x h))
def NK (l : List UInt8) : Prop := ∀ p q,l ≠ p ++ 123 :: 98 :: q ∧ l ≠ p ++ 123 :: 103 :: q
theorem NK.mid {a b c : List UInt8} (h : NK (a ++ b ++ c)) : NK b := by
 intro p q
 refine ⟨fun e => (h (a ++ p) (q ++ c)).1 ?_,fun e => (h (a ++ p) (q ++ c)).2 ?_⟩ <;> simp [e]
theorem NK.tail {c : UInt8} {b : List UInt8} (h : NK (c :: b)) : NK b := NK.mid (a := [c]) (b := b) (c := []) (by simpa using h)
theorem NK.pre {b c : List UInt8} (h : NK (b ++ c)) : NK b := NK.mid (a := []) (b := b) (c := c) (by simpa using h)
theorem NK.suf {a b : List UInt8} (h : NK (a ++ b)) : NK b := NK.mid (a := a) (b := b) (c := []) (by simpa using h)
theorem Z.of {A B E : Int} {l : List UInt8} (tt : T A B E l) : NK l → ∃ t,Z A B E l t := by
 refine T.ind (P := fun A B E l => NK l → ∃ t,Z A B E l t) ?_ ?_ ?_ ?_ tt
 · intro A B E c h1 h2 h3 hc _
   exact ⟨[c],1,h1,h2,h3,.inl ⟨c,hc,rfl,rfl⟩⟩
 · intro A B E x h1 h2 h3 _ ih hn
   obtain ⟨t,n,z⟩ := ih hn.tail
   exact ⟨91 :: t,n + 1,h1,h2,h3,.inr (.inl ⟨x,t,z,rfl,rfl⟩)⟩
 · intro A B E c x h1 h2 h3 hc _ ih hn
   obtain ⟨t,n,z⟩ := ih (NK.mid (a := [97,123,c]) (b := x) (c := [125]) (by simpa using hn))
   have hk : fJ c = true := by
    simp only [fJ,hc,Bool.true_and,Bool.and_eq_true,Bool.not_eq_true', beq_eq_false_iff_ne]
    exact ⟨fun e => (hn [97] (x ++ [125])).1 (by rw [e]; rfl),fun e => (hn [97] (x ++ [125])).2 (by rw [e]; rfl)⟩
   exact ⟨123 :: c :: t,n + 1,h1,h2,h3,.inr (.inr (.inl ⟨c,x,t,hk,z,rfl,rfl⟩))⟩
 · intro A B E xs h1 h2 h3 hn _ ih KT
   have vA : NK xs.flatten := NK.mid (a := [40]) (b := xs.flatten) (c := [41]) (by simpa using KT)
   have key : ∀ ys : List (List UInt8),(∀ x ∈ ys,x ∈ xs) → NK ys.flatten → ∃ zs : List (List UInt8 × List UInt8),zs.map Prod.fst = ys ∧ ∃ n,∀ z ∈ zs,ZF n A (B - 1) E z.1 z.2 := by
    intro ys
    induction ys with
    | nil => exact fun _ _ => ⟨[],rfl,0,fun z h => by cases h⟩
    | cons y ys ihy=>
      intro hm hf
      rw [List.flatten_cons] at hf
      obtain ⟨zs,e,n,hz⟩ := ihy (fun x h => hm x (List.mem_cons_of_mem _ h)) hf.suf
      obtain ⟨t,m,z⟩ := ih y (hm y List.mem_cons_self) hf.pre
      refine ⟨(y,t) :: zs,by rw [List.map_cons,e],max n m,fun q hq => ?_⟩
      rcases List.mem_cons.mp hq with rfl | hq
      · exact z.le (Nat.le_max_right _ _)
      · exact (hz q hq).le (Nat.le_max_left _ _)
   obtain ⟨zs,e,n,hz⟩ := key xs (fun _ h => h) vA
   refine ⟨_,n + 1,h1,h2,h3,.inr (.inr (.inr ⟨zs,?_,hz,by rw [e],rfl⟩))⟩
   rintro rfl
   exact hn e.symm
theorem Z.t {A B E : Int} {l t : List UInt8} (z : Z A B E l t) : T A B E l := by
 refine Z.ind (P := fun A B E l t => T A B E l) ?_ ?_ ?_ ?_ z
 · intro A B E c h1 h2 h3 hc; exact T.one h1 h2 h3 hc
 · intro A B E x y h1 h2 h3 _ ih; exact T.arr h1 h2 h3 ih
 · intro A B E c x y h1 h2 h3 hc _ ih
   refine T.dict h1 h2 h3 ?_ ih
   simp only [fJ,Bool.and_eq_true] at hc
   exact hc.1.1
 · intro A B E zs h1 h2 h3 hn _ ih
   refine T.str h1 h2 h3 (by simpa using hn) ?_
   intro x hx
   obtain ⟨z,hz,rfl⟩ := List.mem_map.1 hx
   exact ih z hz
theorem Z.head {A B E : Int} {l t : List UInt8} (z : Z A B E l t) : ∃ c r,t = c :: r ∧ c ≠ 41 := by
 obtain ⟨n,z⟩ := z
 cases n with
 | zero => exact z.elim
 | succ n=>
   rcases z.2.2.2 with ⟨c,hc,_,rfl⟩ | ⟨x,y,hx,_,rfl⟩ | ⟨c,x,y,hc,hx,_,rfl⟩ | ⟨zs,hn,hx,_,rfl⟩
   · exact ⟨c,[],rfl,(eQ c hc).2.2.2.1⟩
   · exact ⟨91,y,rfl,by decide⟩
   · exact ⟨123,_,rfl,by decide⟩
   · exact ⟨40,_,rfl,by decide⟩
theorem Z.len {A B E : Int} {l t : List UInt8} (z : Z A B E l t) : t.length ≤ l.length ∧ 0 < t.length := by
 refine Z.ind (P := fun A B E l t => t.length ≤ l.length ∧ 0 < t.length) ?_ ?_ ?_ ?_ z
 · intro A B E c h1 h2 h3 hc; simp
 · intro A B E x y h1 h2 h3 _ ih; simp; omega
 · intro A B E c x y h1 h2 h3 hc _ ih; simp; omega
 · intro A B E zs h1 h2 h3 hn _ ih
   have h : ∀ ws : List (List UInt8 × List UInt8),(∀ z ∈ ws,z.2.length ≤ z.1.length) → (ws.map Prod.snd).flatten.length ≤ (ws.map Prod.fst).flatten.length := by
    intro ws
    induction ws with
    | nil => simp
    | cons w ws NY=>
      intro hw
      have h1 := hw w List.mem_cons_self
      have h2 := NY (fun z h => hw z (List.mem_cons_of_mem _ h))
      simp only [List.map_cons,List.flatten_cons,List.length_append]
      omega
   have := h zs (fun z hz => (ih z hz).1)
   simp only [List.length_cons,List.length_append,List.length_nil]
   omega
end Go.Proofs.YtkdebhgccpfkiaaGreatDoor.gw
namespace Go.Proofs.YtkdebhgccpfkiaaGreatDoor.au
open Go.RowKit Go.Proofs.aa.az Go.Proofs.aa.aM Go.Proofs.aa.aU
attribute [local go_sem] ba bh
set_option linter.unusedVariables false
set_option linter.unusedSimpArgs false
def lh : Option (TypeId × Value) → Value
 | none => .nilIface
 | some c => .iface c.1 c.2
theorem cA {x : Int} (h1 : -9223372036854775808 ≤ x) (h2 : x ≤ 9223372036854775807) : wrap64 x = x := by unfold wrap64; omega
theorem bc : lh none = .nilIface := rfl
theorem bb (c : TypeId × Value) : lh (some c) = .iface c.1 c.2 := rfl
theorem LV : (Tryz.prog.info? 9).map (fun i => (i.zero,i.size,i.bytes)) = some (some (.string ⟨#[]⟩),1,16) := by kernel_rfl
theorem NV : (Tryz.prog.info? 65).map (fun i => (i.zero,i.size,i.bytes)) = some (some (.agg #[(.int .u8 0),(.int .u64 0),(.string ⟨#[]⟩),(.slice none 0 0)]),4,56) := by kernel_rfl
theorem Y4 : (Tryz.prog.info? 68).map (fun i => (i.zero,i.size,i.bytes)) = some (some (.string ⟨#[]⟩),1,16) := by kernel_rfl
structure aT where
 f0 : Int
 f1 : Int
 f2 : ByteArray
 f3 : (List aT)
def Xg : aT := ⟨(0 : Int),(0 : Int),(⟨#[]⟩ : ByteArray),([] : List aT)⟩
def Ux (d : Kd aT) : Kd aT := Kd.Tc (Kd.pair (Kd.int .u8) (Kd.pair (Kd.int .u64) (Kd.pair Kd.string (Kd.slice 25 d)))) (fun x : aT => (x.f0,x.f1,x.f2,x.f3))
theorem Nz : Kd.ie Ux := Kd.Iw _ (Kd.jL (Kd.jg _) (Kd.jL (Kd.jg _) (Kd.jL (Kd.jg _) (Kd.D9 25 Kd.KH))))
theorem acD : Kd.Sub Ux [25] := Kd.Kt _ (Kd.ku (Kd.sub_const _ (by decide)) (Kd.ku (Kd.sub_const _ (by decide)) (Kd.ku (Kd.sub_const _ (by decide)) (Kd.Gb 25 (by decide) Kd.MV))))
theorem Yg : ∀ n,(Kd.upto Ux 4 [25] n).sz = 4 := Kd.Ko (fun _ => rfl)
def dF : Kd aT := Kd.fix Ux 4 [25] Yg (Kd.H8 acD)
theorem IV {w : World} {x : aT} {cs : List Value} (h : dF.K w x cs) : ∃ A3 c3,cs = [.int .u8 x.f0,.int .u64 x.f1,.string x.f2,.slice A3 x.f3.length c3] ∧ x.f3.length ≤ c3 ∧ dF.C w A3 x.f3.length x.f3 := by
 obtain ⟨n,h⟩ := h
 cases n with
 | zero => exact h.elim
 | succ n=>
  obtain ⟨_,_,rfl,rfl,⟨_,_,rfl,rfl,⟨_,_,rfl,rfl,⟨A3,c3,rfl,l3,g3⟩⟩⟩⟩ := h
  exact ⟨A3,c3,rfl,l3,Kd.TA g3⟩
theorem Ed (w : World) (x : aT) {A3 : Option Addr} {c3 : Nat} (l3 : x.f3.length ≤ c3) (g3 : dF.C w A3 x.f3.length x.f3) : dF.K w x [.int .u8 x.f0,.int .u64 x.f1,.string x.f2,.slice A3 x.f3.length c3] := by
 obtain ⟨n3,q3⟩ := Kd.L9 Nz g3
 have r3 := Kd.MR Nz Yg (show n3 ≤ n3 by omega) q3
 exact ⟨n3 + 1,⟨[.int .u8 x.f0],[.int .u64 x.f1,.string x.f2,.slice A3 x.f3.length c3],rfl,rfl,⟨[.int .u64 x.f1],[.string x.f2,.slice A3 x.f3.length c3],rfl,rfl,⟨[.string x.f2],[.slice A3 x.f3.length c3],rfl,rfl,⟨A3,c3,rfl,l3,r3⟩⟩⟩⟩⟩
def aA (xs : List aT) (i : Int) : aT := xs.getD i.toNat Xg
theorem EM {w : World} {A : Option Addr} {n : Nat} {xs : List aT} (h : Kd.C dF w A n xs) (i : Int) (h0 : 0 ≤ i) (h1 : i < n) : ∃ ad A3 c3,A = some ad ∧ w.cell? (ad.add (i.toNat * 4)) = some (.int .u8 (aA xs i).f0) ∧ w.cell? ⟨(ad.add (i.toNat * 4)).block,(ad.add (i.toNat * 4)).off + 1,none⟩ = some (.int .u64 (aA xs i).f1) ∧ w.cell? ⟨(ad.add (i.toNat * 4)).block,(ad.add (i.toNat * 4)).off + 2,none⟩ = some (.string (aA xs i).f2) ∧ w.cell? ⟨(ad.add (i.toNat * 4)).block,(ad.add (i.toNat * 4)).off + 3,none⟩ = some (.slice A3 (aA xs i).f3.length c3) ∧ (aA xs i).f3.length ≤ c3 ∧ dF.C w A3 (aA xs i).f3.length (aA xs i).f3 := by
 obtain ⟨ad,c,e,_,hK,hc0⟩ := Kd.Uz h Xg i h0 h1
 have hc : ∀ j u,c[j]? = some u → w.cell? (ad.add (i.toNat * 4 + j)) = some u := hc0
 obtain ⟨A3,c3,rfl,l3,g3⟩ := IV hK
 exact ⟨ad,A3,c3,e,hc 0 _ rfl,by rw [← jQ _ _ 1 (by omega)]; exact hc 1 _ rfl,by rw [← jQ _ _ 2 (by omega)]; exact hc 2 _ rfl,by rw [← jQ _ _ 3 (by omega)]; exact hc 3 _ rfl,l3,g3⟩
structure cY where
 f0 : Int
 f1 : Int
 f2 : ByteArray
 f3 : (List cY)
def z65 : cY := ⟨(0 : Int),(0 : Int),(⟨#[]⟩ : ByteArray),([] : List cY)⟩
def Uw (d : Kd cY) : Kd cY := Kd.Tc (Kd.pair (Kd.int .u8) (Kd.pair (Kd.int .u64) (Kd.pair Kd.string (Kd.slice 65 d)))) (fun x : cY => (x.f0,x.f1,x.f2,x.f3))
theorem Ny : Kd.ie Uw := Kd.Iw _ (Kd.jL (Kd.jg _) (Kd.jL (Kd.jg _) (Kd.jL (Kd.jg _) (Kd.D9 65 Kd.KH))))
theorem acC : Kd.Sub Uw [65] := Kd.Kt _ (Kd.ku (Kd.sub_const _ (by decide)) (Kd.ku (Kd.sub_const _ (by decide)) (Kd.ku (Kd.sub_const _ (by decide)) (Kd.Gb 65 (by decide) Kd.MV))))
theorem Yf : ∀ n,(Kd.upto Uw 4 [65] n).sz = 4 := Kd.Ko (fun _ => rfl)
def kj : Kd cY := Kd.fix Uw 4 [65] Yf (Kd.H8 acC)
theorem QF {w : World} {x : cY} {cs : List Value} (h : kj.K w x cs) : ∃ A3 c3,cs = [.int .u8 x.f0,.int .u64 x.f1,.string x.f2,.slice A3 x.f3.length c3] ∧ x.f3.length ≤ c3 ∧ kj.C w A3 x.f3.length x.f3 := by
 obtain ⟨n,h⟩ := h
 cases n with
 | zero => exact h.elim
 | succ n=>
  obtain ⟨_,_,rfl,rfl,⟨_,_,rfl,rfl,⟨_,_,rfl,rfl,⟨A3,c3,rfl,l3,g3⟩⟩⟩⟩ := h
  exact ⟨A3,c3,rfl,l3,Kd.TA g3⟩
theorem KJ (w : World) (base : Nat) (ok : Nat → Prop) (x : cY) {v3 : Value} (g3 : kj.R 65 w base ok v3 x.f3) : kj.M w base ok x [.int .u8 x.f0,.int .u64 x.f1,.string x.f2,v3] := by
 obtain ⟨n3,q3⟩ := Kd.L8 Ny g3
 have r3 := Kd.MO Ny Yf (show n3 ≤ n3 by omega) q3
 exact ⟨n3 + 1,⟨[.int .u8 x.f0],[.int .u64 x.f1,.string x.f2,v3],rfl,rfl,⟨[.int .u64 x.f1],[.string x.f2,v3],rfl,rfl,⟨[.string x.f2],[v3],rfl,rfl,⟨v3,rfl,r3⟩⟩⟩⟩⟩
def eP (xs : List cY) (i : Int) : cY := xs.getD i.toNat z65
theorem vG {w : World} {A : Option Addr} {n : Nat} {xs : List cY} (h : Kd.C kj w A n xs) (i : Int) (h0 : 0 ≤ i) (h1 : i < n) : ∃ ad A3 c3,A = some ad ∧ w.cell? (ad.add (i.toNat * 4)) = some (.int .u8 (eP xs i).f0) ∧ w.cell? ⟨(ad.add (i.toNat * 4)).block,(ad.add (i.toNat * 4)).off + 1,none⟩ = some (.int .u64 (eP xs i).f1) ∧ w.cell? ⟨(ad.add (i.toNat * 4)).block,(ad.add (i.toNat * 4)).off + 2,none⟩ = some (.string (eP xs i).f2) ∧ w.cell? ⟨(ad.add (i.toNat * 4)).block,(ad.add (i.toNat * 4)).off + 3,none⟩ = some (.slice A3 (eP xs i).f3.length c3) ∧ (eP xs i).f3.length ≤ c3 ∧ kj.C w A3 (eP xs i).f3.length (eP xs i).f3 := by
 obtain ⟨ad,c,e,_,hK,hc0⟩ := Kd.Uz h z65 i h0 h1
 have hc : ∀ j u,c[j]? = some u → w.cell? (ad.add (i.toNat * 4 + j)) = some u := hc0
 obtain ⟨A3,c3,rfl,l3,g3⟩ := QF hK
 exact ⟨ad,A3,c3,e,hc 0 _ rfl,by rw [← jQ _ _ 1 (by omega)]; exact hc 1 _ rfl,by rw [← jQ _ _ 2 (by omega)]; exact hc 2 _ rfl,by rw [← jQ _ _ 3 (by omega)]; exact hc 3 _ rfl,l3,g3⟩
def eh.f (a0 : Int) : Option (Bool) := if a0 ≥ 48 then (if a0 ≤ 57 then (some true) else (if a0 ≥ 65 then (if a0 ≤ 90 then (some true) else (if a0 ≥ 97 then (if a0 ≤ 122 then (some true) else (some (a0 == 95))) else (some (a0 == 95)))) else (if a0 ≥ 97 then (if a0 ≤ 122 then (some true) else (some (a0 == 95))) else (some (a0 == 95))))) else (if a0 ≥ 65 then (if a0 ≤ 90 then (some true) else (if a0 ≥ 97 then (if a0 ≤ 122 then (some true) else (some (a0 == 95))) else (some (a0 == 95)))) else (if a0 ≥ 97 then (if a0 ≤ 122 then (some true) else (some (a0 == 95))) else (some (a0 == 95))))
theorem eh.calls (a0 : Int) (r : Bool) (w : World) (h : eh.f a0 = some r) :
  Calls Tryz.prog 101 #[.int .i32 a0] w fun e w' => e = .returned (.bool r) ∧ ah w w' := by
 have H : (if a0 ≥ 48 then (if a0 ≤ 57 then (some true) else (if a0 ≥ 65 then (if a0 ≤ 90 then (some true) else (if a0 ≥ 97 then (if a0 ≤ 122 then (some true) else (some (a0 == 95))) else (some (a0 == 95)))) else (if a0 ≥ 97 then (if a0 ≤ 122 then (some true) else (some (a0 == 95))) else (some (a0 == 95))))) else (if a0 ≥ 65 then (if a0 ≤ 90 then (some true) else (if a0 ≥ 97 then (if a0 ≤ 122 then (some true) else (some (a0 == 95))) else (some (a0 == 95)))) else (if a0 ≥ 97 then (if a0 ≤ 122 then (some true) else (some (a0 == 95))) else (some (a0 == 95))))) = some r := h
 clear h
 by_cases c2 : a0 ≥ 48
 ·rw [if_pos c2] at H
  have df : decide (48 ≤ a0) = true := decide_eq_true c2
  clear c2
  by_cases c3 : a0 ≤ 57
  ·rw [if_pos c3] at H
   have cI : decide (a0 ≤ 57) = true := decide_eq_true c3
   clear c3
   obtain rfl := Option.some.inj H
   go_enter Tryz.func101,Tryz.ntmps101
   go_wp2
   go_ret
   exact ⟨by first | rfl | (simp; done) | (simp [*]; done),by repeat (first | exact ah.refl _ | apply ah.step)⟩
  ·rw [if_neg c3] at H
   have cI : decide (a0 ≤ 57) = false := decide_eq_false c3
   clear c3
   by_cases c4 : a0 ≥ 65
   ·rw [if_pos c4] at H
    have ei : decide (65 ≤ a0) = true := decide_eq_true c4
    clear c4
    by_cases c5 : a0 ≤ 90
    ·rw [if_pos c5] at H
     have cW : decide (a0 ≤ 90) = true := decide_eq_true c5
     clear c5
     obtain rfl := Option.some.inj H
     go_enter Tryz.func101,Tryz.ntmps101
     go_wp2
     go_ret
     exact ⟨by first | rfl | (simp; done) | (simp [*]; done),by repeat (first | exact ah.refl _ | apply ah.step)⟩
    ·rw [if_neg c5] at H
     have cW : decide (a0 ≤ 90) = false := decide_eq_false c5
     clear c5
     by_cases c6 : a0 ≥ 97
     ·rw [if_pos c6] at H
      have eg : decide (97 ≤ a0) = true := decide_eq_true c6
      clear c6
      by_cases c7 : a0 ≤ 122
      ·rw [if_pos c7] at H
       have dn : decide (a0 ≤ 122) = true := decide_eq_true c7
       clear c7
       obtain rfl := Option.some.inj H
       go_enter Tryz.func101,Tryz.ntmps101
       go_wp2
       go_ret
       exact ⟨by first | rfl | (simp; done) | (simp [*]; done),by repeat (first | exact ah.refl _ | apply ah.step)⟩
      ·rw [if_neg c7] at H
       have dn : decide (a0 ≤ 122) = false := decide_eq_false c7
       clear c7
       obtain rfl := Option.some.inj H
       go_enter Tryz.func101,Tryz.ntmps101
       go_wp2
       go_ret
       exact ⟨by first | rfl | (simp; done) | (simp [*]; done),by repeat (first | exact ah.refl _ | apply ah.step)⟩
     ·rw [if_neg c6] at H
      have eg : decide (97 ≤ a0) = false := decide_eq_false c6
      clear c6
      obtain rfl := Option.some.inj H
      go_enter Tryz.func101,Tryz.ntmps101
      go_wp2
      go_ret
      exact ⟨by first | rfl | (simp; done) | (simp [*]; done),by repeat (first | exact ah.refl _ | apply ah.step)⟩
   ·rw [if_neg c4] at H
    have ei : decide (65 ≤ a0) = false := decide_eq_false c4
    clear c4
    by_cases c8 : a0 ≥ 97
    ·rw [if_pos c8] at H
     have eD : decide (97 ≤ a0) = true := decide_eq_true c8
     clear c8
     by_cases c9 : a0 ≤ 122
     ·rw [if_pos c9] at H
      have eC : decide (a0 ≤ 122) = true := decide_eq_true c9
      clear c9
      obtain rfl := Option.some.inj H
      go_enter Tryz.func101,Tryz.ntmps101
      go_wp2
      go_ret
      exact ⟨by first | rfl | (simp; done) | (simp [*]; done),by repeat (first | exact ah.refl _ | apply ah.step)⟩
     ·rw [if_neg c9] at H
      have eC : decide (a0 ≤ 122) = false := decide_eq_false c9
      clear c9
      obtain rfl := Option.some.inj H
      go_enter Tryz.func101,Tryz.ntmps101
      go_wp2
      go_ret
      exact ⟨by first | rfl | (simp; done) | (simp [*]; done),by repeat (first | exact ah.refl _ | apply ah.step)⟩
    ·rw [if_neg c8] at H
     have eD : decide (97 ≤ a0) = false := decide_eq_false c8
     clear c8
     obtain rfl := Option.some.inj H
     go_enter Tryz.func101,Tryz.ntmps101
     go_wp2
     go_ret
     exact ⟨by first | rfl | (simp; done) | (simp [*]; done),by repeat (first | exact ah.refl _ | apply ah.step)⟩
 ·rw [if_neg c2] at H
  have df : decide (48 ≤ a0) = false := decide_eq_false c2
  clear c2
  by_cases cC : a0 ≥ 65
  ·rw [if_pos cC] at H
   have fa : decide (65 ≤ a0) = true := decide_eq_true cC
   clear cC
   by_cases bE : a0 ≤ 90
   ·rw [if_pos bE] at H
    have dJ : decide (a0 ≤ 90) = true := decide_eq_true bE
    clear bE
    obtain rfl := Option.some.inj H
    go_enter Tryz.func101,Tryz.ntmps101
    go_wp2
    go_ret
    exact ⟨by first | rfl | (simp; done) | (simp [*]; done),by repeat (first | exact ah.refl _ | apply ah.step)⟩
   ·rw [if_neg bE] at H
    have dJ : decide (a0 ≤ 90) = false := decide_eq_false bE
    clear bE
    by_cases bP : a0 ≥ 97
    ·rw [if_pos bP] at H
     have fj : decide (97 ≤ a0) = true := decide_eq_true bP
     clear bP
     by_cases bV : a0 ≤ 122
     ·rw [if_pos bV] at H
      have dP : decide (a0 ≤ 122) = true := decide_eq_true bV
      clear bV
      obtain rfl := Option.some.inj H
      go_enter Tryz.func101,Tryz.ntmps101
      go_wp2
      go_ret
      exact ⟨by first | rfl | (simp; done) | (simp [*]; done),by repeat (first | exact ah.refl _ | apply ah.step)⟩
     ·rw [if_neg bV] at H
      have dP : decide (a0 ≤ 122) = false := decide_eq_false bV
      clear bV
      obtain rfl := Option.some.inj H
      go_enter Tryz.func101,Tryz.ntmps101
      go_wp2
      go_ret
      exact ⟨by first | rfl | (simp; done) | (simp [*]; done),by repeat (first | exact ah.refl _ | apply ah.step)⟩
    ·rw [if_neg bP] at H
     have fj : decide (97 ≤ a0) = false := decide_eq_false bP
     clear bP
     obtain rfl := Option.some.inj H
     go_enter Tryz.func101,Tryz.ntmps101
     go_wp2
     go_ret
     exact ⟨by first | rfl | (simp; done) | (simp [*]; done),by repeat (first | exact ah.refl _ | apply ah.step)⟩
  ·rw [if_neg cC] at H
   have fa : decide (65 ≤ a0) = false := decide_eq_false cC
   clear cC
   by_cases cS : a0 ≥ 97
   ·rw [if_pos cS] at H
    have iO : decide (97 ≤ a0) = true := decide_eq_true cS
    clear cS
    by_cases dU : a0 ≤ 122
    ·rw [if_pos dU] at H
     have jD : decide (a0 ≤ 122) = true := decide_eq_true dU
     clear dU
     obtain rfl := Option.some.inj H
     go_enter Tryz.func101,Tryz.ntmps101
     go_wp2
     go_ret
     exact ⟨by first | rfl | (simp; done) | (simp [*]; done),by repeat (first | exact ah.refl _ | apply ah.step)⟩
    ·rw [if_neg dU] at H
     have jD : decide (a0 ≤ 122) = false := decide_eq_false dU
     clear dU
     obtain rfl := Option.some.inj H
     go_enter Tryz.func101,Tryz.ntmps101
     go_wp2
     go_ret
     exact ⟨by first | rfl | (simp; done) | (simp [*]; done),by repeat (first | exact ah.refl _ | apply ah.step)⟩
   ·rw [if_neg cS] at H
    have iO : decide (97 ≤ a0) = false := decide_eq_false cS
    clear cS
    obtain rfl := Option.some.inj H
    go_enter Tryz.func101,Tryz.ntmps101
    go_wp2
    go_ret
    exact ⟨by first | rfl | (simp; done) | (simp [*]; done),by repeat (first | exact ah.refl _ | apply ah.step)⟩
def cx.f (a0 : Int) : Option (ByteArray × Bool) := if a0 = 121 then (some ((⟨#[121]⟩ : ByteArray),true)) else (if a0 = 98 then (some ((⟨#[98]⟩ : ByteArray),true)) else (if a0 = 110 then (some ((⟨#[110]⟩ : ByteArray),true)) else (if a0 = 113 then (some ((⟨#[113]⟩ : ByteArray),true)) else (if a0 = 105 then (some ((⟨#[105]⟩ : ByteArray),true)) else (if a0 = 117 then (some ((⟨#[117]⟩ : ByteArray),true)) else (if a0 = 120 then (some ((⟨#[120]⟩ : ByteArray),true)) else (if a0 = 116 then (some ((⟨#[116]⟩ : ByteArray),true)) else (if a0 = 100 then (some ((⟨#[100]⟩ : ByteArray),true)) else (if a0 = 115 then (some ((⟨#[115]⟩ : ByteArray),true)) else (if a0 = 103 then (some ((⟨#[103]⟩ : ByteArray),true)) else (if a0 = 111 then (some ((⟨#[111]⟩ : ByteArray),true)) else (if a0 = 118 then (some ((⟨#[118]⟩ : ByteArray),true)) else (if a0 = 104 then (some ((⟨#[104]⟩ : ByteArray),true)) else (some ((⟨#[]⟩ : ByteArray),false)))))))))))))))
theorem cx.calls (a0 : Int) (r1 : ByteArray) (r2 : Bool) (w : World) (h : cx.f a0 = some (r1,r2)) :
  Calls Tryz.prog 52 #[.int .u8 a0] w fun e w' => e = .returned (.tuple #[.string r1,.bool r2]) ∧ ah w w' := by
 have H : (if a0 = 121 then (some ((⟨#[121]⟩ : ByteArray),true)) else (if a0 = 98 then (some ((⟨#[98]⟩ : ByteArray),true)) else (if a0 = 110 then (some ((⟨#[110]⟩ : ByteArray),true)) else (if a0 = 113 then (some ((⟨#[113]⟩ : ByteArray),true)) else (if a0 = 105 then (some ((⟨#[105]⟩ : ByteArray),true)) else (if a0 = 117 then (some ((⟨#[117]⟩ : ByteArray),true)) else (if a0 = 120 then (some ((⟨#[120]⟩ : ByteArray),true)) else (if a0 = 116 then (some ((⟨#[116]⟩ : ByteArray),true)) else (if a0 = 100 then (some ((⟨#[100]⟩ : ByteArray),true)) else (if a0 = 115 then (some ((⟨#[115]⟩ : ByteArray),true)) else (if a0 = 103 then (some ((⟨#[103]⟩ : ByteArray),true)) else (if a0 = 111 then (some ((⟨#[111]⟩ : ByteArray),true)) else (if a0 = 118 then (some ((⟨#[118]⟩ : ByteArray),true)) else (if a0 = 104 then (some ((⟨#[104]⟩ : ByteArray),true)) else (some ((⟨#[]⟩ : ByteArray),false)))))))))))))))) = some (r1,r2) := h
 clear h
 by_cases c2 : a0 = 121
 ·rw [if_pos c2] at H
  have df : (a0 == 121) = true := beq_iff_eq.mpr c2
  have eF : (a0 != 121) = false := bne_eq_false_iff_eq.mpr c2
  clear c2
  simp only [Option.some.injEq,Prod.mk.injEq] at H
  obtain ⟨rfl,rfl⟩ := H
  go_enter Tryz.func52,Tryz.ntmps52
  go_wp2
  go_ret2
  exact ⟨by first | rfl | (simp; done) | (simp [*]; done),by repeat (first | exact ah.refl _ | apply ah.step)⟩
 ·rw [if_neg c2] at H
  have df : (a0 == 121) = false := beq_eq_false_iff_ne.mpr c2
  have eF : (a0 != 121) = true := bne_iff_ne.mpr c2
  by_cases c3 : a0 = 98
  ·rw [if_pos c3] at H
   have cI : (a0 == 98) = true := beq_iff_eq.mpr c3
   have ej : (a0 != 98) = false := bne_eq_false_iff_eq.mpr c3
   clear c3
   simp only [Option.some.injEq,Prod.mk.injEq] at H
   obtain ⟨rfl,rfl⟩ := H
   go_enter Tryz.func52,Tryz.ntmps52
   go_wp2
   go_ret2
   exact ⟨by first | rfl | (simp; done) | (simp [*]; done),by repeat (first | exact ah.refl _ | apply ah.step)⟩
  ·rw [if_neg c3] at H
   have cI : (a0 == 98) = false := beq_eq_false_iff_ne.mpr c3
   have ej : (a0 != 98) = true := bne_iff_ne.mpr c3
   by_cases c4 : a0 = 110
   ·rw [if_pos c4] at H
    have ei : (a0 == 110) = true := beq_iff_eq.mpr c4
    have gl : (a0 != 110) = false := bne_eq_false_iff_eq.mpr c4
    clear c4
    simp only [Option.some.injEq,Prod.mk.injEq] at H
    obtain ⟨rfl,rfl⟩ := H
    go_enter Tryz.func52,Tryz.ntmps52
    go_wp2
    go_ret2
    exact ⟨by first | rfl | (simp; done) | (simp [*]; done),by repeat (first | exact ah.refl _ | apply ah.step)⟩
   ·rw [if_neg c4] at H
    have ei : (a0 == 110) = false := beq_eq_false_iff_ne.mpr c4
    have gl : (a0 != 110) = true := bne_iff_ne.mpr c4
    by_cases c5 : a0 = 113
    ·rw [if_pos c5] at H
     have cW : (a0 == 113) = true := beq_iff_eq.mpr c5
     have dH : (a0 != 113) = false := bne_eq_false_iff_eq.mpr c5
     clear c5
     simp only [Option.some.injEq,Prod.mk.injEq] at H
     obtain ⟨rfl,rfl⟩ := H
     go_enter Tryz.func52,Tryz.ntmps52
     go_wp2
     go_ret2
     exact ⟨by first | rfl | (simp; done) | (simp [*]; done),by repeat (first | exact ah.refl _ | apply ah.step)⟩
    ·rw [if_neg c5] at H
     have cW : (a0 == 113) = false := beq_eq_false_iff_ne.mpr c5
     have dH : (a0 != 113) = true := bne_iff_ne.mpr c5
     by_cases c6 : a0 = 105
     ·rw [if_pos c6] at H
      have eg : (a0 == 105) = true := beq_iff_eq.mpr c6
      have fR : (a0 != 105) = false := bne_eq_false_iff_eq.mpr c6
      clear c6
      simp only [Option.some.injEq,Prod.mk.injEq] at H
      obtain ⟨rfl,rfl⟩ := H
      go_enter Tryz.func52,Tryz.ntmps52
      go_wp2
      go_ret2
      exact ⟨by first | rfl | (simp; done) | (simp [*]; done),by repeat (first | exact ah.refl _ | apply ah.step)⟩
     ·rw [if_neg c6] at H
      have eg : (a0 == 105) = false := beq_eq_false_iff_ne.mpr c6
      have fR : (a0 != 105) = true := bne_iff_ne.mpr c6
      by_cases c7 : a0 = 117
      ·rw [if_pos c7] at H
       have dn : (a0 == 117) = true := beq_iff_eq.mpr c7
       have eZ : (a0 != 117) = false := bne_eq_false_iff_eq.mpr c7
       clear c7
       simp only [Option.some.injEq,Prod.mk.injEq] at H
       obtain ⟨rfl,rfl⟩ := H
       go_enter Tryz.func52,Tryz.ntmps52
       go_wp2
       go_ret2
       exact ⟨by first | rfl | (simp; done) | (simp [*]; done),by repeat (first | exact ah.refl _ | apply ah.step)⟩
      ·rw [if_neg c7] at H
       have dn : (a0 == 117) = false := beq_eq_false_iff_ne.mpr c7
       have eZ : (a0 != 117) = true := bne_iff_ne.mpr c7
       by_cases c8 : a0 = 120
       ·rw [if_pos c8] at H
        have eD : (a0 == 120) = true := beq_iff_eq.mpr c8
        have jr : (a0 != 120) = false := bne_eq_false_iff_eq.mpr c8
        clear c8
        simp only [Option.some.injEq,Prod.mk.injEq] at H
        obtain ⟨rfl,rfl⟩ := H
        go_enter Tryz.func52,Tryz.ntmps52
        go_wp2
        go_ret2
        exact ⟨by first | rfl | (simp; done) | (simp [*]; done),by repeat (first | exact ah.refl _ | apply ah.step)⟩
       ·rw [if_neg c8] at H
        have eD : (a0 == 120) = false := beq_eq_false_iff_ne.mpr c8
        have jr : (a0 != 120) = true := bne_iff_ne.mpr c8
        by_cases c9 : a0 = 116
        ·rw [if_pos c9] at H
         have eC : (a0 == 116) = true := beq_iff_eq.mpr c9
         have j8 : (a0 != 116) = false := bne_eq_false_iff_eq.mpr c9
         clear c9
         simp only [Option.some.injEq,Prod.mk.injEq] at H
         obtain ⟨rfl,rfl⟩ := H
         go_enter Tryz.func52,Tryz.ntmps52
         go_wp2
         go_ret2
         exact ⟨by first | rfl | (simp; done) | (simp [*]; done),by repeat (first | exact ah.refl _ | apply ah.step)⟩
        ·rw [if_neg c9] at H
         have eC : (a0 == 116) = false := beq_eq_false_iff_ne.mpr c9
         have j8 : (a0 != 116) = true := bne_iff_ne.mpr c9
         by_cases cC : a0 = 100
         ·rw [if_pos cC] at H
          have fa : (a0 == 100) = true := beq_iff_eq.mpr cC
          have jl : (a0 != 100) = false := bne_eq_false_iff_eq.mpr cC
          clear cC
          simp only [Option.some.injEq,Prod.mk.injEq] at H
          obtain ⟨rfl,rfl⟩ := H
          go_enter Tryz.func52,Tryz.ntmps52
          go_wp2
          go_ret2
          exact ⟨by first | rfl | (simp; done) | (simp [*]; done),by repeat (first | exact ah.refl _ | apply ah.step)⟩
         ·rw [if_neg cC] at H
          have fa : (a0 == 100) = false := beq_eq_false_iff_ne.mpr cC
          have jl : (a0 != 100) = true := bne_iff_ne.mpr cC
          by_cases bE : a0 = 115
          ·rw [if_pos bE] at H
           have dJ : (a0 == 115) = true := beq_iff_eq.mpr bE
           have eS : (a0 != 115) = false := bne_eq_false_iff_eq.mpr bE
           clear bE
           simp only [Option.some.injEq,Prod.mk.injEq] at H
           obtain ⟨rfl,rfl⟩ := H
           go_enter Tryz.func52,Tryz.ntmps52
           go_wp2
           go_ret2
           exact ⟨by first | rfl | (simp; done) | (simp [*]; done),by repeat (first | exact ah.refl _ | apply ah.step)⟩
          ·rw [if_neg bE] at H
           have dJ : (a0 == 115) = false := beq_eq_false_iff_ne.mpr bE
           have eS : (a0 != 115) = true := bne_iff_ne.mpr bE
           by_cases bP : a0 = 103
           ·rw [if_pos bP] at H
            have fj : (a0 == 103) = true := beq_iff_eq.mpr bP
            have jk : (a0 != 103) = false := bne_eq_false_iff_eq.mpr bP
            clear bP
            simp only [Option.some.injEq,Prod.mk.injEq] at H
            obtain ⟨rfl,rfl⟩ := H
            go_enter Tryz.func52,Tryz.ntmps52
            go_wp2
            go_ret2
            exact ⟨by first | rfl | (simp; done) | (simp [*]; done),by repeat (first | exact ah.refl _ | apply ah.step)⟩
           ·rw [if_neg bP] at H
            have fj : (a0 == 103) = false := beq_eq_false_iff_ne.mpr bP
            have jk : (a0 != 103) = true := bne_iff_ne.mpr bP
            by_cases bV : a0 = 111
            ·rw [if_pos bV] at H
             have dP : (a0 == 111) = true := beq_iff_eq.mpr bV
             have gf : (a0 != 111) = false := bne_eq_false_iff_eq.mpr bV
             clear bV
             simp only [Option.some.injEq,Prod.mk.injEq] at H
             obtain ⟨rfl,rfl⟩ := H
             go_enter Tryz.func52,Tryz.ntmps52
             go_wp2
             go_ret2
             exact ⟨by first | rfl | (simp; done) | (simp [*]; done),by repeat (first | exact ah.refl _ | apply ah.step)⟩
            ·rw [if_neg bV] at H
             have dP : (a0 == 111) = false := beq_eq_false_iff_ne.mpr bV
             have gf : (a0 != 111) = true := bne_iff_ne.mpr bV
             by_cases cS : a0 = 118
             ·rw [if_pos cS] at H
              have iO : (a0 == 118) = true := beq_iff_eq.mpr cS
              have kJ : (a0 != 118) = false := bne_eq_false_iff_eq.mpr cS
              clear cS
              simp only [Option.some.injEq,Prod.mk.injEq] at H
              obtain ⟨rfl,rfl⟩ := H
              go_enter Tryz.func52,Tryz.ntmps52
              go_wp2
              go_ret2
              exact ⟨by first | rfl | (simp; done) | (simp [*]; done),by repeat (first | exact ah.refl _ | apply ah.step)⟩
             ·rw [if_neg cS] at H
              have iO : (a0 == 118) = false := beq_eq_false_iff_ne.mpr cS
              have kJ : (a0 != 118) = true := bne_iff_ne.mpr cS
              by_cases dU : a0 = 104
              ·rw [if_pos dU] at H
               have jD : (a0 == 104) = true := beq_iff_eq.mpr dU
               have kI : (a0 != 104) = false := bne_eq_false_iff_eq.mpr dU
               clear dU
               simp only [Option.some.injEq,Prod.mk.injEq] at H
               obtain ⟨rfl,rfl⟩ := H
               go_enter Tryz.func52,Tryz.ntmps52
               go_wp2
               go_ret2
               exact ⟨by first | rfl | (simp; done) | (simp [*]; done),by repeat (first | exact ah.refl _ | apply ah.step)⟩
              ·rw [if_neg dU] at H
               have jD : (a0 == 104) = false := beq_eq_false_iff_ne.mpr dU
               have kI : (a0 != 104) = true := bne_iff_ne.mpr dU
               simp only [Option.some.injEq,Prod.mk.injEq] at H
               obtain ⟨rfl,rfl⟩ := H
               go_enter Tryz.func52,Tryz.ntmps52
               go_wp2
               go_ret2
               exact ⟨by first | rfl | (simp; done) | (simp [*]; done),by repeat (first | exact ah.refl _ | apply ah.step)⟩
def aG.step (c l r n : Int) : Int := if c = l then wrap64 (n + 1) else if c = r then wrap64 (n - 1) else n
def aG.l0 : Nat → ByteArray → Int → Int → Int → Nat → Option Int
 | 0,_,_,_,_,_ => none
 | k + 1,s,l,r,n,pos => if pos < s.size then
   (if aG.step ((Utf8.decode s pos).1 : Int) l r n = 0 then some (pos : Int) else aG.l0 k s l r (aG.step ((Utf8.decode s pos).1 : Int) l r n) (pos + (Utf8.decode s pos).2))
   else some (-1)
def aG.f (k : Nat) (a0 : ByteArray) (a1 a2 : Int) : Option Int := aG.l0 k a0 a1 a2 0 0
theorem aG.calls (k : Nat) (a0 : ByteArray) (a1 a2 : Int) (r : Int) (w : World) (h : aG.f k a0 a1 a2 = some r) :
  Calls Tryz.prog 93 #[.string a0,.int .i32 a1,.int .i32 a2] w fun e w' => e = .returned (.int .i64 r) ∧ Below w.heap.size w w' := by
 have H := U.mk h
 clear h
 go_enter Tryz.func93,Tryz.ntmps93
 go_wp2
 go_loopg [7] k (fun kq v7 w' => ∃ (n : Int) (pos : Nat),v7 = .int .i64 n ∧ U (aG.l0 kq a0 a1 a2 n pos = some r) ∧ U (w'.heap[w.heap.size]? = some (.stringIter a0 pos)) ∧ U (Below w.heap.size w w'))
 case atStart => exact ⟨0,0,rfl,H,⟨World.iter_heap w a0 0⟩,⟨(Below.refl _ _).alloc (Nat.le_refl _) _⟩⟩
 case round=>
  clear H
  obtain ⟨n,pos,rfl,HA,HI,HB⟩ := hrel
  cases gk with
  | zero => exact absurd HA.out (by simp [aG.l0])
  | succ k1=>
   by_cases hp : pos < a0.size
   ·have H := HA.out
    clear HA
    simp only [aG.l0,if_pos hp] at H
    have zG : ∀ ty,(Instr.next (.pointer (some ⟨w.heap.size,0,none⟩)) true ty).run Tryz.prog wr = _ := fun ty => Lib.run_next_any_at wr w.heap.size a0 pos ty HI.out hp
    have DF := U.mk (Lib.iterAt_heap wr w.heap.size a0 pos (pos + (Utf8.decode a0 pos).2) HI.out)
    have vC := U.mk (Lib.below_iterAt HB.out (k := w.heap.size) (Nat.le_refl _) a0 (pos + (Utf8.decode a0 pos).2))
    obtain ⟨W1,Gz⟩ : ∃ W1,W1 = wr.iterAt w.heap.size a0 (pos + (Utf8.decode a0 pos).2) := ⟨_,rfl⟩
    rw [← Gz] at zG DF vC
    clear Gz HI HB hp
    generalize ((Utf8.decode a0 pos).1 : Int) = c at *
    by_cases h1 : c = a1
    ·have h1b : (c == a1) = true := beq_iff_eq.mpr h1
     have e : aG.step c a1 a2 n = wrap64 (n + 1) := by simp [aG.step,h1]
     rw [e] at H
     clear h1 e
     by_cases h3 : wrap64 (n + 1) = 0
     ·rw [if_pos h3] at H
      obtain rfl := Option.some.inj H
      have OQ : (wrap64 (n + 1) == 0) = true := beq_iff_eq.mpr h3
      clear h3 H
      go_wp2
      go_ret
      exact ⟨rfl,vC.out⟩
     ·rw [if_neg h3] at H
      have OQ : (wrap64 (n + 1) == 0) = false := beq_eq_false_iff_ne.mpr h3
      have H' := U.mk H
      clear h3 H
      go_wp2
      go_roundg k1
      case measure => omega
      case rel => exact ⟨_,_,rfl,H', DF,vC⟩
    ·have h1b : (c == a1) = false := beq_eq_false_iff_ne.mpr h1
     by_cases h2 : c = a2
     ·have h2b : (c == a2) = true := beq_iff_eq.mpr h2
      have e : aG.step c a1 a2 n = wrap64 (n - 1) := by simp only [aG.step,if_neg h1,if_pos h2]
      rw [e] at H
      clear h1 h2 e
      by_cases h3 : wrap64 (n - 1) = 0
      ·rw [if_pos h3] at H
       obtain rfl := Option.some.inj H
       have OQ : (wrap64 (n - 1) == 0) = true := beq_iff_eq.mpr h3
       clear h3 H
       go_wp2
       go_ret
       exact ⟨rfl,vC.out⟩
      ·rw [if_neg h3] at H
       have OQ : (wrap64 (n - 1) == 0) = false := beq_eq_false_iff_ne.mpr h3
       have H' := U.mk H
       clear h3 H
       go_wp2
       go_roundg k1
       case measure => omega
       case rel => exact ⟨_,_,rfl,H', DF,vC⟩
     ·have h2b : (c == a2) = false := beq_eq_false_iff_ne.mpr h2
      have e : aG.step c a1 a2 n = n := by simp only [aG.step,if_neg h1,if_neg h2]
      rw [e] at H
      clear h1 h2 e
      by_cases h3 : n = 0
      ·rw [if_pos h3] at H
       obtain rfl := Option.some.inj H
       have OQ : (n == 0) = true := beq_iff_eq.mpr h3
       clear h3 H
       go_wp2
       go_ret
       exact ⟨rfl,vC.out⟩
      ·rw [if_neg h3] at H
       have OQ : (n == 0) = false := beq_eq_false_iff_ne.mpr h3
       have H' := U.mk H
       clear h3 H
       go_wp2
       go_roundg k1
       case measure => omega
       case rel => exact ⟨_,_,rfl,H', DF,vC⟩
   ·have H := HA.out
    clear HA
    simp only [aG.l0,if_neg hp] at H
    obtain rfl := Option.some.inj H
    clear H
    have zG : ∀ ty,(Instr.next (.pointer (some ⟨w.heap.size,0,none⟩)) true ty).run Tryz.prog wr = _ := fun ty => Lib.run_next_end_at wr w.heap.size a0 pos ty HI.out hp
    go_wp2
    go_ret
    exact ⟨rfl,HB.out⟩
def gJ.f (bw : Int) (bG : Int) (bu : ByteArray) (aN : List (aT)) : Option (Bool) := if (bu.size : Int) > 2147483647 then (some false) else (if (aN.length : Int) > 2147483647 then (some false) else (some true))
theorem gJ.calls (bw : Int) (bG : Int) (bu : ByteArray) (gm : Option Addr) (fh : Nat) (aN : List (aT)) (r : Bool) (w : World) (Ch : Kd.C dF w gm aN.length aN) (Cm : aN.length ≤ fh) (h : gJ.f bw bG bu aN = some r) :
  Calls Tryz.prog 4 #[.agg #[.int .u8 bw,.int .u64 bG,.string bu,.slice gm aN.length fh]] w fun e w' => e = .returned (.bool r) ∧ Below w.heap.size w w' := by
 have Zb := Tryz.underlying25
 have Ub := U.mk Ch
 have adU := U.mk Cm
 clear Ch Cm
 have HB := U.mk (Below.refl w.heap.size w)
 have H : (if (bu.size : Int) > 2147483647 then (some false) else (if (aN.length : Int) > 2147483647 then (some false) else (some true))) = some r := h
 clear h
 by_cases c2 : (bu.size : Int) > 2147483647
 ·rw [if_pos c2] at H
  have df : decide (2147483647 < (bu.size : Int)) = true := decide_eq_true c2
  have eF : decide (2147483647 < bu.size) = true := decide_eq_true (by omega)
  clear c2
  obtain rfl := Option.some.inj H
  go_enter Tryz.func4,Tryz.ntmps4
  go_wp2_with (first | ((with_reducible refine ic (N := 1) rfl ?_); refine gv ?hg (N := 1) ?hd (cs := #[.int .u8 bw,.int .u64 bG,.string bu,.slice gm aN.length fh]) (t := 25) ?hr ?_; (case hd => rfl); (case hg => rfl); (case hr => first | (go_simp; done) | (go_simp; rfl)); intro fG hg w3 fz hb; have bM := U.mk (aw (by repeat (first | (with_reducible first | exact HB.out | apply ab | apply ai | apply ak) | exact HB.out)) hb); have cq := U.mk (fz); have dR := U.mk ((by rw [hg]; exact (br (by repeat (first | (with_reducible first | exact HB.out | apply ab | apply ai | apply ak) | exact HB.out))) : w.heap.size ≤ fG)); have eJ := U.mk ((by rw [hg]; exact (br (by repeat (first | (with_reducible first | exact HB.out | apply ab | apply ai | apply ak) | exact HB.out))) : w.heap.size ≤ fG)); clear HB; have HB := bM; have ep := cq; have Uu := dR; have Ff := eJ; clear bM cq dR eJ; clear hb fz hg; have ag3 : w3.cell? ⟨fG,0,none⟩ = some (.int .u8 bw) := (aK ep.out 0).trans rfl; have ag2 : w3.cell? ⟨fG,1,none⟩ = some (.int .u64 bG) := (aK ep.out 1).trans rfl; have ag1 : w3.cell? ⟨fG,2,none⟩ = some (.string bu) := (aK ep.out 2).trans rfl; have ag0 : w3.cell? ⟨fG,3,none⟩ = some (.slice gm aN.length fh) := (aK ep.out 3).trans rfl; have agR := aY ep.out 0; have agQ := aY ep.out 1; have agP := aY ep.out 2; have agO := aY ep.out 3))
  go_ret
  exact ⟨by first | rfl | (simp [bc,bb] <;> rfl) | (simp [*,bc,bb] <;> rfl) | (simp (disch := omega) only [cA] <;> rfl),by repeat (first | (with_reducible first | exact HB.out | apply ab | apply ai | apply ak | refine aR ?_ Ff.out) | exact HB.out)⟩
 ·rw [if_neg c2] at H
  have df : decide (2147483647 < (bu.size : Int)) = false := decide_eq_false c2
  have eF : decide (2147483647 < bu.size) = false := decide_eq_false (by omega)
  clear c2
  by_cases c5 : (aN.length : Int) > 2147483647
  ·rw [if_pos c5] at H
   have cW : decide (2147483647 < (aN.length : Int)) = true := decide_eq_true c5
   have dH : decide (2147483647 < aN.length) = true := decide_eq_true (by omega)
   clear c5
   obtain rfl := Option.some.inj H
   go_enter Tryz.func4,Tryz.ntmps4
   go_wp2_with (first | ((with_reducible refine ic (N := 1) rfl ?_); refine gv ?hg (N := 1) ?hd (cs := #[.int .u8 bw,.int .u64 bG,.string bu,.slice gm aN.length fh]) (t := 25) ?hr ?_; (case hd => rfl); (case hg => rfl); (case hr => first | (go_simp; done) | (go_simp; rfl)); intro fG hg w6 fz hb; have bM := U.mk (aw (by repeat (first | (with_reducible first | exact HB.out | apply ab | apply ai | apply ak) | exact HB.out)) hb); have cq := U.mk (fz); have dR := U.mk ((by rw [hg]; exact (br (by repeat (first | (with_reducible first | exact HB.out | apply ab | apply ai | apply ak) | exact HB.out))) : w.heap.size ≤ fG)); have eJ := U.mk ((by rw [hg]; exact (br (by repeat (first | (with_reducible first | exact HB.out | apply ab | apply ai | apply ak) | exact HB.out))) : w.heap.size ≤ fG)); clear HB; have HB := bM; have ep := cq; have Uu := dR; have Ff := eJ; clear bM cq dR eJ; clear hb fz hg; have agZ : w6.cell? ⟨fG,0,none⟩ = some (.int .u8 bw) := (aK ep.out 0).trans rfl; have agY : w6.cell? ⟨fG,1,none⟩ = some (.int .u64 bG) := (aK ep.out 1).trans rfl; have agX : w6.cell? ⟨fG,2,none⟩ = some (.string bu) := (aK ep.out 2).trans rfl; have agW : w6.cell? ⟨fG,3,none⟩ = some (.slice gm aN.length fh) := (aK ep.out 3).trans rfl; have agN := aY ep.out 0; have agM := aY ep.out 1; have agL := aY ep.out 2; have agK := aY ep.out 3))
   go_ret
   exact ⟨by first | rfl | (simp [bc,bb] <;> rfl) | (simp [*,bc,bb] <;> rfl) | (simp (disch := omega) only [cA] <;> rfl),by repeat (first | (with_reducible first | exact HB.out | apply ab | apply ai | apply ak | refine aR ?_ Ff.out) | exact HB.out)⟩
  ·rw [if_neg c5] at H
   have cW : decide (2147483647 < (aN.length : Int)) = false := decide_eq_false c5
   have dH : decide (2147483647 < aN.length) = false := decide_eq_false (by omega)
   clear c5
   obtain rfl := Option.some.inj H
   go_enter Tryz.func4,Tryz.ntmps4
   go_wp2_with (first | ((with_reducible refine ic (N := 1) rfl ?_); refine gv ?hg (N := 1) ?hd (cs := #[.int .u8 bw,.int .u64 bG,.string bu,.slice gm aN.length fh]) (t := 25) ?hr ?_; (case hd => rfl); (case hg => rfl); (case hr => first | (go_simp; done) | (go_simp; rfl)); intro fG hg w8 fz hb; have bM := U.mk (aw (by repeat (first | (with_reducible first | exact HB.out | apply ab | apply ai | apply ak) | exact HB.out)) hb); have cq := U.mk (fz); have dR := U.mk ((by rw [hg]; exact (br (by repeat (first | (with_reducible first | exact HB.out | apply ab | apply ai | apply ak) | exact HB.out))) : w.heap.size ≤ fG)); have eJ := U.mk ((by rw [hg]; exact (br (by repeat (first | (with_reducible first | exact HB.out | apply ab | apply ai | apply ak) | exact HB.out))) : w.heap.size ≤ fG)); clear HB; have HB := bM; have ep := cq; have Uu := dR; have Ff := eJ; clear bM cq dR eJ; clear hb fz hg; have Jt : w8.cell? ⟨fG,0,none⟩ = some (.int .u8 bw) := (aK ep.out 0).trans rfl; have Js : w8.cell? ⟨fG,1,none⟩ = some (.int .u64 bG) := (aK ep.out 1).trans rfl; have Jr : w8.cell? ⟨fG,2,none⟩ = some (.string bu) := (aK ep.out 2).trans rfl; have Ow : w8.cell? ⟨fG,3,none⟩ = some (.slice gm aN.length fh) := (aK ep.out 3).trans rfl; have Jl := aY ep.out 0; have Jk := aY ep.out 1; have Jj := aY ep.out 2; have Ou := aY ep.out 3))
   go_ret
   exact ⟨by first | rfl | (simp [bc,bb] <;> rfl) | (simp [*,bc,bb] <;> rfl) | (simp (disch := omega) only [cA] <;> rfl),by repeat (first | (with_reducible first | exact HB.out | apply ab | apply ai | apply ak | refine aR ?_ Ff.out) | exact HB.out)⟩
end Go.Proofs.YtkdebhgccpfkiaaGreatDoor.au
namespace Go.Proofs.YtkdebhgccpfkiaaGreatDoor.au
open Go.RowKit Go.Proofs.aa.az Go.Proofs.aa.aM Go.Proofs.aa.aU
attribute [local go_sem] ba bh
set_option linter.unusedVariables false
set_option linter.unusedSimpArgs false
mutual
def fS.j0 : Nat → Bool → Int → Int → ByteArray → List (aT) → Int → Int → ByteArray → List (aT) → Option (Bool)
 | 0,_,_,_,_,_,_,_,_,_ => none
 | k + 1,H4,Fm,Fl,Fk,jd,Fj,Fi,Fh,jI => if H4 = true then (some false) else (fS.l0 k (jd.length : Int) 0 Fm Fl Fk jd Fj Fi Fh jI)
def fS.l0 : Nat → Int → Int → Int → Int → ByteArray → List (aT) → Int → Int → ByteArray → List (aT) → Option (Bool)
 | 0,_,_,_,_,_,_,_,_,_,_ => none
 | k + 1,SQ,yY,Fm,Fl,Fk,jd,Fj,Fi,Fh,jI => if yY < SQ then (if 0 ≤ yY then (if yY < (jd.length : Int) then (if yY < (jI.length : Int) then ((fS.f k ((aA jd yY).f0) ((aA jd yY).f1) ((aA jd yY).f2) ((aA jd yY).f3) ((aA jI yY).f0) ((aA jI yY).f1) ((aA jI yY).f2) ((aA jI yY).f3)).bind fun t170 => (if t170 = true then (fS.l0 k SQ (wrap64 (yY + 1)) Fm Fl Fk jd Fj Fi Fh jI) else (some false))) else (none)) else (none)) else (none)) else (some true)
def fS.f : Nat → Int → Int → ByteArray → List (aT) → Int → Int → ByteArray → List (aT) → Option (Bool)
 | 0,_,_,_,_,_,_,_,_ => none
 | k + 1,bw,bG,bu,aN,JT,JS,JR,IJ => if bw = JT then (if bG = JS then (if bu.toList = JR.toList then (fS.j0 k ((aN.length : Int) != (IJ.length : Int)) bw bG bu aN JT JS JR IJ) else (fS.j0 k true bw bG bu aN JT JS JR IJ)) else (fS.j0 k true bw bG bu aN JT JS JR IJ)) else (fS.j0 k true bw bG bu aN JT JS JR IJ)
end
end Go.Proofs.YtkdebhgccpfkiaaGreatDoor.au
namespace Go.Proofs.YtkdebhgccpfkiaaGreatDoor.au
open Go.RowKit Go.Proofs.aa.az Go.Proofs.aa.aM Go.Proofs.aa.aU
attribute [local go_sem] ba bh
set_option linter.unusedVariables false
set_option linter.unusedSimpArgs false
mutual
def dG.l0 : Nat → Int → Int → Int → Int → ByteArray → List (aT) → Option (Bool)
 | 0,_,_,_,_,_,_ => none
 | k + 1,x7,x8,jc,jH,jG,cH => if x8 < x7 then (if 0 ≤ x8 then (if x8 < (cH.length : Int) then ((dG.f k ((aA cH x8).f0) ((aA cH x8).f1) ((aA cH x8).f2) ((aA cH x8).f3)).bind fun t173 => (if t173 = true then (dG.l1 k x8 0 x7 x8 jc jH jG cH) else (some false))) else (none)) else (none)) else (some true)
def dG.l1 : Nat → Int → Int → Int → Int → Int → Int → ByteArray → List (aT) → Option (Bool)
 | 0,_,_,_,_,_,_,_,_ => none
 | k + 1,x3,x4,x7,x8,jc,jH,jG,cH => if x4 < x3 then (if jc = 97 then (if 0 ≤ x3 then (if x3 < (cH.length : Int) then (dG.j2 k x3 x4 x7 x8 (((aA cH x3).f0) == 123) jc jH jG cH) else (none)) else (none)) else (dG.j2 k x3 x4 x7 x8 false jc jH jG cH)) else (dG.j2 k x3 x4 x7 x8 false jc jH jG cH)
def dG.j2 : Nat → Int → Int → Int → Int → Bool → Int → Int → ByteArray → List (aT) → Option (Bool)
 | 0,_,_,_,_,_,_,_,_,_ => none
 | k + 1,x3,x4,x7,x8,AJ,jc,jH,jG,cH => if AJ = true then (if 0 ≤ x4 then (if x4 < (cH.length : Int) then (if 0 < (((aA cH x4).f3).length : Int) then (if 0 ≤ x3 then (if x3 < (cH.length : Int) then (if 0 < (((aA cH x3).f3).length : Int) then ((fS.f k ((aA ((aA cH x4).f3) 0).f0) ((aA ((aA cH x4).f3) 0).f1) ((aA ((aA cH x4).f3) 0).f2) ((aA ((aA cH x4).f3) 0).f3) ((aA ((aA cH x3).f3) 0).f0) ((aA ((aA cH x3).f3) 0).f1) ((aA ((aA cH x3).f3) 0).f2) ((aA ((aA cH x3).f3) 0).f3)).bind fun t179 => (if t179 = true then (some false) else (dG.l1 k x3 (wrap64 (x4 + 1)) x7 x8 jc jH jG cH))) else (none)) else (none)) else (none)) else (none)) else (none)) else (none)) else (dG.l0 k x7 (wrap64 (x8 + 1)) jc jH jG cH)
def dG.f : Nat → Int → Int → ByteArray → List (aT) → Option (Bool)
 | 0,_,_,_,_ => none
 | k + 1,bw,bG,bu,aN => dG.l0 k (aN.length : Int) 0 bw bG bu aN
end
end Go.Proofs.YtkdebhgccpfkiaaGreatDoor.au
