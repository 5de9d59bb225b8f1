-- A trial text of this session.
import Derived.Test.YthcafnmagidpiaaDoorMFnVtTokensLc
namespace Go.Proofs.YthcafnmagidpiaaDoor.MFnVtTokens
open Go.RowKit Go.Proofs.YthcafnmagidpiaaDoorW.PrintWords Go.Proofs.YthcafnmagidpiaaDoorW.PrintLast Go.Proofs.YthcafnmagidpiaaDoorW.PrintMore
attribute [local go_sem] max2_int min2_int max_two min_two max_three min_three max_four min_four
set_option linter.unusedVariables false
set_option linter.unusedSimpArgs false


/-! ### types -/
def blankb (c : UInt8) : Bool := decide (c.toNat = 32 ∨ (9 ≤ c.toNat ∧ c.toNat ≤ 13))
/-- How many bytes of ASCII there are up to a blank; no answer where another byte is met. -/
def typL : List UInt8 → Option Nat
  | [] => some 0
  | c :: r => if 128 ≤ c.toNat then none else if blankb c = true then some 0 else (typL r).map (· + 1)
theorem sp_fin : ∀ n : Fin 128, dbus_zzSpace.f (n.val : Int) = some (decide (n.val = 32 ∨ (9 ≤ n.val ∧ n.val ≤ 13))) := by decide +kernel
theorem sp_at {c : UInt8} (h : c.toNat < 128) : dbus_zzSpace.f (c.toNat : Int) = some (blankb c) := sp_fin ⟨c.toNat, h⟩
def V64 : ByteArray := ⟨#[64]⟩
theorem asc_of {v : ByteArray} (h : (v.data.toList.all fun c => decide (c.toNat < 128)) = true) : Asc v := fun c hc => by simpa using List.all_eq_true.1 h c hc
theorem asc64 : Asc V64 := asc_of (by decide)
def errT : ByteArray := ⟨#[37, 115]⟩
def badT : ByteArray := ⟨#[117, 110, 114, 101, 99, 111, 103, 110, 105, 122, 101, 100, 32, 116, 121, 112, 101, 32, 37, 113]⟩
def typF (k : Nat) (l : List UInt8) : Option (Option (Int × Nat) × ByteArray) :=
  (typL l).bind fun n => if hd V64 l = true then (dbus_ParseSignature.f k ⟨((l.take n).drop 1).toArray⟩).bind fun x => if x.2.isSome = true then some (none, errT) else some (some (13, n), ⟨#[]⟩)
    else (dbus_zzVarType.f ⟨(l.take n).toArray⟩).bind fun x => if x.2 = true then some (some (13, n), ⟨#[]⟩) else some (none, badT)
def TokPost (w0 : World) (g : Nat) (a : ByteArray) (pos : Nat) (ts : List S48) (o : Option (Int × Nat) × ByteArray) (e : Ending) (w' : World) : Prop :=
  match o.1 with
  | none => e = .returned .nilFunc ∧ ∃ st p k, Lx w0 w' g a st p k (ts ++ [⟨1, o.2⟩])
  | some tn => e = .returned (.func (.func 32) #[] #[]) ∧ ∃ k, Lx w0 w' g a (pos + tn.2) (pos + tn.2) k (ts ++ [⟨tn.1, a.extract pos (pos + tn.2)⟩])
theorem Lx.alloc {w0 w : World} {g : Nat} {a : ByteArray} {st pos wd : Nat} {ts : List S48} (h : Lx w0 w g a st pos wd ts) (o : Obj) : Lx w0 (w.alloc o) g a st pos wd ts := h.below (below_alloc (Below.refl _ _) o)
theorem Lx.lt {w0 w : World} {g : Nat} {a : ByteArray} {st pos wd : Nat} {ts : List S48} (h : Lx w0 w g a st pos wd ts) : g < w.heap.size := by
  obtain ⟨_, _, A, h3, _⟩ := h
  exact (Array.getElem?_eq_some_iff.1 h3).1
theorem kk_set {W : World} {g b i : Nat} {x y z v : Value} (h : W.cell? ⟨g, 0, none⟩ = some x ∧ W.cell? ⟨g, 1, none⟩ = some y ∧ W.cell? ⟨g, 2, none⟩ = some z) (hne : g ≠ b) :
    (W.setCell ⟨b, i, none⟩ v).cell? ⟨g, 0, none⟩ = some x ∧ (W.setCell ⟨b, i, none⟩ v).cell? ⟨g, 1, none⟩ = some y ∧ (W.setCell ⟨b, i, none⟩ v).cell? ⟨g, 2, none⟩ = some z :=
  ⟨(World.cell?_setCell_other (h := fun e => hne (by injection e with e1; exact e1.symm)) ..).trans h.1, (World.cell?_setCell_other (h := fun e => hne (by injection e with e1; exact e1.symm)) ..).trans h.2.1, (World.cell?_setCell_other (h := fun e => hne (by injection e with e1; exact e1.symm)) ..).trans h.2.2⟩
theorem kk_alloc {W : World} {g : Nat} {x y z : Value} (o : Obj) (h : W.cell? ⟨g, 0, none⟩ = some x ∧ W.cell? ⟨g, 1, none⟩ = some y ∧ W.cell? ⟨g, 2, none⟩ = some z) :
    (W.alloc o).cell? ⟨g, 0, none⟩ = some x ∧ (W.alloc o).cell? ⟨g, 1, none⟩ = some y ∧ (W.alloc o).cell? ⟨g, 2, none⟩ = some z :=
  ⟨pw_cell_below (below_alloc (Below.refl _ _) _) h.1, pw_cell_below (below_alloc (Below.refl _ _) _) h.2.1, pw_cell_below (below_alloc (Below.refl _ _) _) h.2.2⟩
theorem z_new {W w6 : World} {v : Value} {t : TypeId} (hb : Below (W.alloc (.cells #[v] t)).heap.size (W.alloc (.cells #[v] t)) w6) : w6.cell? ⟨W.heap.size, 0, none⟩ = some v ∧ w6.frozen? ⟨W.heap.size, 0, none⟩ = false := by
  have h1 := heap_alloc_new W (.cells #[v] t)
  have h2 : w6.heap[W.heap.size]? = some (.cells #[v] t) := (hb.block W.heap.size (Array.getElem?_eq_some_iff.1 h1).1).trans h1
  exact ⟨(blk_cell h2 0).trans rfl, blk_frozen h2 0⟩
theorem ext_take (a : ByteArray) (p n : Nat) : (a.extract p (p + n)) = ⟨((a.data.toList.drop p).take n).toArray⟩ := by
  have h : (a.extract p (p + n)).data.toList = (a.data.toList.drop p).take n := by
    rw [Lib.extract_data]
    congr 1
    omega
  generalize a.extract p (p + n) = b at h
  obtain ⟨⟨l⟩⟩ := b
  have h2 : l = (a.data.toList.drop p).take n := h
  rw [h2]
theorem ext_take1 (a : ByteArray) (p n : Nat) (hn : 1 ≤ n) : (a.extract (p + 1) (p + n)) = ⟨(((a.data.toList.drop p).take n).drop 1).toArray⟩ := by
  have h := ext_take a (p + 1) (n - 1)
  rw [show p + 1 + (n - 1) = p + n by omega] at h
  rw [h]
  congr 2
  rw [List.drop_take, List.drop_drop]

set_option maxHeartbeats 8000000 in
set_option maxRecDepth 100000 in
theorem tya_calls (K : Nat) (w0 w : World) (g : Nat) (a : ByteArray) (pos wd : Nat) (ts : List S48) (n : Nat) (r1 : ByteArray) (r2 : Option (TypeId × Value)) (o : Option (Int × Nat) × ByteArray) (ho : (if r2.isSome = true then ((none, errT) : Option (Int × Nat) × ByteArray) else (some (13, n), ⟨#[]⟩)) = o) (hx : Lx w0 w g a pos pos wd ts) (hp : pos ≤ a.size) (hat : hd V64 (a.data.toList.drop pos) = true) (hn1 : 1 ≤ n) (htl : typL (a.data.toList.drop pos) = some n) (hps : dbus_ParseSignature.f K (a.extract (pos + 1) (pos + n)) = some (r1, r2)) (hq : a.size ≤ 100000) (hn : ts.length ≤ 100000) (hT : Lib.Utf8Tabs 0 1 w0) :
    Calls Tryd.prog 38 #[.pointer (some ⟨g, 0, none⟩)] w (TokPost w0 g a pos ts o) := by
  have HOO := Aside0.mk ho
  clear ho
  have hlen : (a.data.toList.drop pos).length = a.size - pos := by rw [List.length_drop]; rfl
  have HN := Aside0.mk (fun W p k (h : Lx w0 W g a pos p k ts) (hp : p ≤ a.size) => next_calls w0 W g a pos p k ts h hp hq hT)
  have HBK := Aside0.mk (fun W p k (h : Lx w0 W g a pos p k ts) (hp : k ≤ p) (hq : p ≤ 100000) => back_calls w0 W g a pos p k ts h hp hq)
  have HE := Aside0.mk (fun W f v p k (h : Lx w0 W g a pos p k ts) => errf_calls w0 W g a pos p k ts f v h (by omega))
  have HM := Aside0.mk (fun W p k (h : Lx w0 W g a pos p k ts) (h1 : pos ≤ p) (h2 : p ≤ a.size) => emit_calls w0 W g a pos p k ts 13 h h1 h2 hq (by omega))
  have HAC := Aside0.mk (acc_calls w0 w g a pos pos wd ts V64 asc64 hx hp hq hT)
  rw [hat] at HAC
  have hopt : opt V64 (a.data.toList.drop pos) = 1 := by unfold opt; rw [hat]; rfl
  rw [hopt] at HAC
  have HTL := Aside0.mk htl
  have HPS := Aside0.mk hps
  have HST : Aside0 (typL (a.data.toList.drop pos) = (typL (a.data.toList.drop (pos + 1))).map (· + 1) ∧ pos + 1 ≤ a.size) := ⟨by
    cases hc : a.data.toList.drop pos with
    | nil => rw [hc] at hat; cases hat
    | cons c t =>
      rw [hc] at hat hlen
      simp only [hd, V64, List.contains_iff_mem] at hat
      simp only [List.mem_cons, List.not_mem_nil, or_false] at hat
      subst hat
      refine ⟨?_, by simp at hlen; omega⟩
      rw [drop_tail hc]
      rfl⟩
  clear hx hT hn hlen hat htl hps hopt
  go_enter Tryd.func38, Tryd.ntmps38
  go_wp2_with (go_at_call 48; (try unfold V64 at HAC); refine HAC.out.mono ?_; rintro e w2 ⟨k, rfl, hx2⟩; have HX2 := Aside0.mk hx2; clear hx2)
  go_loopg [] (a.size - (pos + 1)) (fun kq w' => ∃ p k : Nat, pos ≤ p ∧ p ≤ a.size ∧ Aside0 (kq = a.size - p ∧ Lx w0 w' g a pos p k ts ∧ typL (a.data.toList.drop pos) = (typL (a.data.toList.drop p)).map (· + (p - pos))))
  case atStart =>
    refine ⟨pos + 1, k, by omega, HST.out.2, ⟨rfl, HX2.out, ?_⟩⟩
    rw [HST.out.1]
    congr 1
    funext x
    omega
  case round =>
    clear HX2 HST
    obtain ⟨p, k0, hp1, hp2, HI⟩ := hrel
    have hlp : (a.data.toList.drop p).length = a.size - p := by rw [List.length_drop]; rfl
    have HLP := Aside0.mk hlp
    clear hlp
    go_upto_region 3 with (go_at_call 34; refine (HN.out _ _ _ HI.out.2.1 (by omega)).mono ?_; rintro e w3 ⟨r, k, hn, rfl, hx3⟩; have HX3 := Aside0.mk hx3; have hkl := Nat.le_trans hn.le (Nat.le_of_eq HLP.out); have HNX := Aside0.mk hn; clear hn hx3)
    rcases HNX.out with ⟨e1, rfl, rfl⟩ | ⟨c, t, e1, hc, rfl, rfl⟩ | ⟨c, t, e1, hc, hr, hk1, hk2, hall⟩
    · -- the end
      have hpn : p = pos + n := by
        have h := HI.out.2.2
        rw [HTL.out, e1] at h
        simp only [typL, Option.map_some, Option.some.injEq] at h
        omega
      subst hpn
      have HXE := Aside0.mk (show Lx w0 w3 g a pos (pos + n) 0 ts from HX3.out)
      have hcut := hp2
      clear e1 HX3
      obtain ⟨E, hE⟩ : ∃ E, pos + n = E := ⟨_, rfl⟩
      obtain ⟨P1, hP1⟩ : ∃ P1, pos + 1 = P1 := ⟨_, rfl⟩
      rw [hE] at HXE hcut
      (try rw [hE] at HPS)
      (try rw [hP1] at HPS)
      have c0 := HXE.out.c0
      have c1 := HXE.out.c1
      have c2 := HXE.out.c2
      have hw1 : IntKind.i64.wrap ((pos : Int) + 1) = (P1 : Int) := by rw [IntKind.wrap_i64]; omega
      have i1 : (0 : Int) ≤ (P1 : Int) := by omega
      have i2 : (P1 : Int) ≤ (E : Int) := by omega
      have i3 : (E : Int) ≤ (a.size : Int) := by omega
      have i4 : (0 : Int) ≤ (pos : Int) := by omega
      have i5 : (pos : Int) ≤ (E : Int) := by omega
      have hcutE : pos ≤ E := by omega
      have HE1E := Aside0.mk hE
      clear hE hP1
      go_upto_region 7 with (fail)
      go_region_held3 (fun w' => w'.cell? ⟨g, 0, none⟩ = some (.string a) ∧ w'.cell? ⟨g, 1, none⟩ = some (.int .i64 (pos : Int)) ∧ w'.cell? ⟨g, 2, none⟩ = some (.int .i64 (E : Int))) (first | exact kk.out | go_keep | exact kk_alloc _ kk.out | exact kk_set kk.out (Nat.ne_of_lt HXE.out.lt))
        ((go_at_call 49; refine (dbus_ParseSignature.calls K (a.extract P1 E) r1 r2 _ HPS.out).mono ?_; rintro e w6 ⟨rfl, hb6⟩; have HB6 : Aside0 (Below w3.heap.size w3 w6) := ⟨below_step (by repeat (first | exact Below.refl _ _ | apply below_alloc | apply pw_below_drewN | apply below_drew1)) hb6⟩; have HX6 := Aside0.mk (HXE.out.below HB6.out); have kk := Aside0.mk (And.intro HX6.out.c0 (And.intro HX6.out.c1 HX6.out.c2)); (try have z0 : w6.cell? ⟨w3.heap.size, 0, none⟩ = some (.string ⟨#[]⟩) := (z_new (W := w3.drew) (v := .string ⟨#[]⟩) (t := 71) hb6).1); (try have zf : w6.frozen? ⟨w3.heap.size, 0, none⟩ = false := (z_new (W := w3.drew) (v := .string ⟨#[]⟩) (t := 71) hb6).2); clear hb6))
      all_goals
        rcases r2 with _ | ⟨ty, v⟩
        · simp only [errW_none]
          go_wp2_with (go_at_call 35; refine (HM.out _ _ _ (Lx.below HXE.out (by repeat (first | exact HB6.out | exact Below.refl _ _ | apply below_alloc | apply pw_below_drewN | apply below_drew1 | refine below_set ?_ (Nat.le_refl _)))) (by omega) (by omega)).mono ?_; rintro e w8 ⟨rfl, hx8⟩; have HX8 := Aside0.mk hx8; clear hx8)
          go_ret
          rw [← HOO.out]
          exact ⟨rfl, _, by have := HX8.out; rw [← HE1E.out] at this; exact this⟩
        · simp only [errW_some]
          go_wp2_with (go_at_call 47; refine (HE.out _ _ _ _ _ (Lx.below HXE.out (by repeat (first | exact HB6.out | exact Below.refl _ _ | apply below_alloc | apply pw_below_drewN | apply below_drew1 | refine below_set ?_ (Nat.le_refl _))))).mono ?_; rintro e w8 ⟨rfl, hx8⟩; have HX8 := Aside0.mk hx8; clear hx8)
          go_ret
          rw [← HOO.out]
          exact ⟨rfl, _, _, _, HX8.out⟩
    · have HE1 := Aside0.mk e1
      have HT1 := Aside0.mk (drop_tail e1)
      have nm1 : ((c.toNat : Int) == -1) = false := beq_eq_false_iff_ne.2 (by omega)
      have HSP := Aside0.mk (sp_at hc)
      have hnc : ¬ (128 ≤ c.toNat) := by omega
      clear e1
      by_cases hb : blankb c = true
      · have hpn : p = pos + n := by
          have h := HI.out.2.2
          rw [HTL.out, HE1.out] at h
          simp only [typL, if_neg hnc, if_pos hb, Option.map_some, Option.some.injEq] at h
          omega
        subst hpn
        rw [hb] at HSP
        have hcut := hp2
        go_upto_region 6 with (first | (go_at_call 39; refine (dbus_zzSpace.calls (c.toNat : Int) true _ HSP.out).mono ?_; rintro e w4 ⟨rfl, ⟨m4, rfl⟩⟩) | (go_at_call 36; refine (HBK.out _ _ _ (Lx.drewN HX3.out _) (by omega) (by omega)).mono ?_; rintro e w5 ⟨rfl, hx5⟩; (rw [Nat.add_sub_cancel] at hx5); have HXE := Aside0.mk hx5; clear hx5))
        obtain ⟨E, hE⟩ : ∃ E, pos + n = E := ⟨_, rfl⟩
        obtain ⟨P1, hP1⟩ : ∃ P1, pos + 1 = P1 := ⟨_, rfl⟩
        rw [hE] at HXE hcut
        (try rw [hE] at HPS)
        (try rw [hP1] at HPS)
        have c0 := HXE.out.c0
        have c1 := HXE.out.c1
        have c2 := HXE.out.c2
        have hw1 : IntKind.i64.wrap ((pos : Int) + 1) = (P1 : Int) := by rw [IntKind.wrap_i64]; omega
        have i1 : (0 : Int) ≤ (P1 : Int) := by omega
        have i2 : (P1 : Int) ≤ (E : Int) := by omega
        have i3 : (E : Int) ≤ (a.size : Int) := by omega
        have i4 : (0 : Int) ≤ (pos : Int) := by omega
        have i5 : (pos : Int) ≤ (E : Int) := by omega
        have hcutE : pos ≤ E := by omega
        have HE1E := Aside0.mk hE
        clear hE hP1
        go_upto_region 7 with (fail)
        go_region_held3 (fun w' => w'.cell? ⟨g, 0, none⟩ = some (.string a) ∧ w'.cell? ⟨g, 1, none⟩ = some (.int .i64 (pos : Int)) ∧ w'.cell? ⟨g, 2, none⟩ = some (.int .i64 (E : Int))) (first | exact kk.out | go_keep | exact kk_alloc _ kk.out | exact kk_set kk.out (Nat.ne_of_lt HXE.out.lt))
          ((go_at_call 49; refine (dbus_ParseSignature.calls K (a.extract P1 E) r1 r2 _ HPS.out).mono ?_; rintro e w6 ⟨rfl, hb6⟩; have HB6 : Aside0 (Below w5.heap.size w5 w6) := ⟨below_step (by repeat (first | exact Below.refl _ _ | apply below_alloc | apply pw_below_drewN | apply below_drew1)) hb6⟩; have HX6 := Aside0.mk (HXE.out.below HB6.out); have kk := Aside0.mk (And.intro HX6.out.c0 (And.intro HX6.out.c1 HX6.out.c2)); (try have z0 : w6.cell? ⟨w5.heap.size, 0, none⟩ = some (.string ⟨#[]⟩) := (z_new (W := w5.drew) (v := .string ⟨#[]⟩) (t := 71) hb6).1); (try have zf : w6.frozen? ⟨w5.heap.size, 0, none⟩ = false := (z_new (W := w5.drew) (v := .string ⟨#[]⟩) (t := 71) hb6).2); clear hb6))
        all_goals
          rcases r2 with _ | ⟨ty, v⟩
          · simp only [errW_none]
            go_wp2_with (go_at_call 35; refine (HM.out _ _ _ (Lx.below HXE.out (by repeat (first | exact HB6.out | exact Below.refl _ _ | apply below_alloc | apply pw_below_drewN | apply below_drew1 | refine below_set ?_ (Nat.le_refl _)))) (by omega) (by omega)).mono ?_; rintro e w8 ⟨rfl, hx8⟩; have HX8 := Aside0.mk hx8; clear hx8)
            go_ret
            rw [← HOO.out]
            exact ⟨rfl, _, by have := HX8.out; rw [← HE1E.out] at this; exact this⟩
          · simp only [errW_some]
            go_wp2_with (go_at_call 47; refine (HE.out _ _ _ _ _ (Lx.below HXE.out (by repeat (first | exact HB6.out | exact Below.refl _ _ | apply below_alloc | apply pw_below_drewN | apply below_drew1 | refine below_set ?_ (Nat.le_refl _))))).mono ?_; rintro e w8 ⟨rfl, hx8⟩; have HX8 := Aside0.mk hx8; clear hx8)
            go_ret
            rw [← HOO.out]
            exact ⟨rfl, _, _, _, HX8.out⟩
      · have hbf : blankb c = false := by simpa using hb
        rw [hbf] at HSP
        go_wp2_with (go_at_call 39; refine (dbus_zzSpace.calls (c.toNat : Int) false _ HSP.out).mono ?_; rintro e w4 ⟨rfl, ⟨m4, rfl⟩⟩)
        have hsz : p + 1 ≤ a.size := sz_of HE1.out
        go_roundg (a.size - (p + 1))
        case measure => have := HI.out.1; omega
        case rel =>
          refine ⟨p + 1, 1, by omega, by omega, ⟨rfl, Lx.drewN HX3.out _, ?_⟩⟩
          rw [HI.out.2.2, HE1.out, HT1.out]
          simp only [typL, if_neg hnc, if_neg hb, Option.map_map]
          congr 1
          funext x
          simp only [Function.comp]
          omega
    · have h := HI.out.2.2
      rw [HTL.out, e1] at h
      simp only [typL, if_pos hc, Option.map_none] at h
      cases h

set_option maxHeartbeats 8000000 in
set_option maxRecDepth 100000 in
theorem tyw_calls (K : Nat) (w0 w : World) (g : Nat) (a : ByteArray) (pos wd : Nat) (ts : List S48) (n : Nat) (r1 : ByteArray) (r2 : Bool) (o : Option (Int × Nat) × ByteArray) (ho : (if r2 = true then ((some (13, n), ⟨#[]⟩) : Option (Int × Nat) × ByteArray) else (none, badT)) = o) (hx : Lx w0 w g a pos pos wd ts) (hp : pos ≤ a.size) (hat : hd V64 (a.data.toList.drop pos) = false) (hn1 : 1 ≤ n) (htl : typL (a.data.toList.drop pos) = some n) (hps : dbus_zzVarType.f (a.extract pos (pos + n)) = some (r1, r2)) (hq : a.size ≤ 100000) (hn : ts.length ≤ 100000) (hT : Lib.Utf8Tabs 0 1 w0) :
    Calls Tryd.prog 38 #[.pointer (some ⟨g, 0, none⟩)] w (TokPost w0 g a pos ts o) := by
  have HOO := Aside0.mk ho
  clear ho
  have hlen : (a.data.toList.drop pos).length = a.size - pos := by rw [List.length_drop]; rfl
  have HN := Aside0.mk (fun W p k (h : Lx w0 W g a pos p k ts) (hp : p ≤ a.size) => next_calls w0 W g a pos p k ts h hp hq hT)
  have HBK := Aside0.mk (fun W p k (h : Lx w0 W g a pos p k ts) (hp : k ≤ p) (hq : p ≤ 100000) => back_calls w0 W g a pos p k ts h hp hq)
  have HE := Aside0.mk (fun W f v p k (h : Lx w0 W g a pos p k ts) => errf_calls w0 W g a pos p k ts f v h (by omega))
  have HM := Aside0.mk (fun W p k (h : Lx w0 W g a pos p k ts) (h1 : pos ≤ p) (h2 : p ≤ a.size) => emit_calls w0 W g a pos p k ts 13 h h1 h2 hq (by omega))
  have HAC := Aside0.mk (acc_calls w0 w g a pos pos wd ts V64 asc64 hx hp hq hT)
  rw [hat] at HAC
  have hopt : opt V64 (a.data.toList.drop pos) = 0 := by unfold opt; rw [hat]; rfl
  rw [hopt] at HAC
  have HTL := Aside0.mk htl
  have HPS := Aside0.mk hps
  have HST : Aside0 (typL (a.data.toList.drop pos) = (typL (a.data.toList.drop (pos + 0))).map (· + 0) ∧ pos + 0 ≤ a.size) := ⟨by
    refine ⟨?_, by omega⟩
    simp⟩
  clear hx hT hn hlen hat htl hps hopt
  go_enter Tryd.func38, Tryd.ntmps38
  go_wp2_with (go_at_call 48; (try unfold V64 at HAC); refine HAC.out.mono ?_; rintro e w2 ⟨k, rfl, hx2⟩; have HX2 := Aside0.mk hx2; clear hx2)
  go_loopg [] (a.size - (pos + 0)) (fun kq w' => ∃ p k : Nat, pos ≤ p ∧ p ≤ a.size ∧ Aside0 (kq = a.size - p ∧ Lx w0 w' g a pos p k ts ∧ typL (a.data.toList.drop pos) = (typL (a.data.toList.drop p)).map (· + (p - pos))))
  case atStart =>
    refine ⟨pos + 0, k, by omega, HST.out.2, ⟨rfl, HX2.out, ?_⟩⟩
    rw [HST.out.1]
    congr 1
    funext x
    omega
  case round =>
    clear HX2 HST
    obtain ⟨p, k0, hp1, hp2, HI⟩ := hrel
    have hlp : (a.data.toList.drop p).length = a.size - p := by rw [List.length_drop]; rfl
    have HLP := Aside0.mk hlp
    clear hlp
    go_upto_region 3 with (go_at_call 34; refine (HN.out _ _ _ HI.out.2.1 (by omega)).mono ?_; rintro e w3 ⟨r, k, hn, rfl, hx3⟩; have HX3 := Aside0.mk hx3; have hkl := Nat.le_trans hn.le (Nat.le_of_eq HLP.out); have HNX := Aside0.mk hn; clear hn hx3)
    rcases HNX.out with ⟨e1, rfl, rfl⟩ | ⟨c, t, e1, hc, rfl, rfl⟩ | ⟨c, t, e1, hc, hr, hk1, hk2, hall⟩
    · -- the end
      have hpn : p = pos + n := by
        have h := HI.out.2.2
        rw [HTL.out, e1] at h
        simp only [typL, Option.map_some, Option.some.injEq] at h
        omega
      subst hpn
      have HXE := Aside0.mk (show Lx w0 w3 g a pos (pos + n) 0 ts from HX3.out)
      have hcut := hp2
      clear e1 HX3
      obtain ⟨E, hE⟩ : ∃ E, pos + n = E := ⟨_, rfl⟩
      obtain ⟨P1, hP1⟩ : ∃ P1, pos + 1 = P1 := ⟨_, rfl⟩
      rw [hE] at HXE hcut
      (try rw [hE] at HPS)
      (try rw [hP1] at HPS)
      have c0 := HXE.out.c0
      have c1 := HXE.out.c1
      have c2 := HXE.out.c2
      have hw1 : IntKind.i64.wrap ((pos : Int) + 1) = (P1 : Int) := by rw [IntKind.wrap_i64]; omega
      have i1 : (0 : Int) ≤ (P1 : Int) := by omega
      have i2 : (P1 : Int) ≤ (E : Int) := by omega
      have i3 : (E : Int) ≤ (a.size : Int) := by omega
      have i4 : (0 : Int) ≤ (pos : Int) := by omega
      have i5 : (pos : Int) ≤ (E : Int) := by omega
      have hcutE : pos ≤ E := by omega
      have HE1E := Aside0.mk hE
      clear hE hP1
      go_upto_region 10 with (fail)
      go_region_held3 (fun w' => w'.cell? ⟨g, 0, none⟩ = some (.string a) ∧ w'.cell? ⟨g, 1, none⟩ = some (.int .i64 (pos : Int)) ∧ w'.cell? ⟨g, 2, none⟩ = some (.int .i64 (E : Int))) (first | go_keep)
        ((go_at_call 50; refine (dbus_zzVarType.calls (a.extract pos E) r1 r2 _ HPS.out).mono ?_; rintro e w6 ⟨rfl, ⟨m6, rfl⟩⟩))
      all_goals
        cases r2 with
        | true =>
          go_wp2_with (go_at_call 35; refine (HM.out _ _ _ (by repeat (first | exact HXE.out | apply Lx.drewN | apply Lx.drew | apply Lx.alloc)) (by omega) (by omega)).mono ?_; rintro e w8 ⟨rfl, hx8⟩; have HX8 := Aside0.mk hx8; clear hx8)
          go_ret
          rw [← HOO.out]
          exact ⟨rfl, _, by have := HX8.out; rw [← HE1E.out] at this; exact this⟩
        | false =>
          go_upto_region 14 with (fail)
          go_region_held3 (fun w' => w'.cell? ⟨g, 0, none⟩ = some (.string a) ∧ w'.cell? ⟨g, 1, none⟩ = some (.int .i64 (pos : Int)) ∧ w'.cell? ⟨g, 2, none⟩ = some (.int .i64 (E : Int))) (first | exact kk.out | go_keep)
            ((go_at_call 47; refine (HE.out _ _ _ _ _ (by repeat (first | exact HXE.out | apply Lx.drewN | apply Lx.drew | apply Lx.alloc))).mono ?_; rintro e w8 ⟨rfl, hx8⟩; have HX8 := Aside0.mk hx8; have kk := Aside0.mk (And.intro hx8.c0 (And.intro hx8.c1 hx8.c2)); clear hx8))
          all_goals
            go_wp2
            go_ret
            rw [← HOO.out]
            exact ⟨rfl, _, _, _, HX8.out⟩
    · have HE1 := Aside0.mk e1
      have HT1 := Aside0.mk (drop_tail e1)
      have nm1 : ((c.toNat : Int) == -1) = false := beq_eq_false_iff_ne.2 (by omega)
      have HSP := Aside0.mk (sp_at hc)
      have hnc : ¬ (128 ≤ c.toNat) := by omega
      clear e1
      by_cases hb : blankb c = true
      · have hpn : p = pos + n := by
          have h := HI.out.2.2
          rw [HTL.out, HE1.out] at h
          simp only [typL, if_neg hnc, if_pos hb, Option.map_some, Option.some.injEq] at h
          omega
        subst hpn
        rw [hb] at HSP
        have hcut := hp2
        go_upto_region 6 with (first | (go_at_call 39; refine (dbus_zzSpace.calls (c.toNat : Int) true _ HSP.out).mono ?_; rintro e w4 ⟨rfl, ⟨m4, rfl⟩⟩) | (go_at_call 36; refine (HBK.out _ _ _ (Lx.drewN HX3.out _) (by omega) (by omega)).mono ?_; rintro e w5 ⟨rfl, hx5⟩; (rw [Nat.add_sub_cancel] at hx5); have HXE := Aside0.mk hx5; clear hx5))
        obtain ⟨E, hE⟩ : ∃ E, pos + n = E := ⟨_, rfl⟩
        obtain ⟨P1, hP1⟩ : ∃ P1, pos + 1 = P1 := ⟨_, rfl⟩
        rw [hE] at HXE hcut
        (try rw [hE] at HPS)
        (try rw [hP1] at HPS)
        have c0 := HXE.out.c0
        have c1 := HXE.out.c1
        have c2 := HXE.out.c2
        have hw1 : IntKind.i64.wrap ((pos : Int) + 1) = (P1 : Int) := by rw [IntKind.wrap_i64]; omega
        have i1 : (0 : Int) ≤ (P1 : Int) := by omega
        have i2 : (P1 : Int) ≤ (E : Int) := by omega
        have i3 : (E : Int) ≤ (a.size : Int) := by omega
        have i4 : (0 : Int) ≤ (pos : Int) := by omega
        have i5 : (pos : Int) ≤ (E : Int) := by omega
        have hcutE : pos ≤ E := by omega
        have HE1E := Aside0.mk hE
        clear hE hP1
        go_upto_region 10 with (fail)
        go_region_held3 (fun w' => w'.cell? ⟨g, 0, none⟩ = some (.string a) ∧ w'.cell? ⟨g, 1, none⟩ = some (.int .i64 (pos : Int)) ∧ w'.cell? ⟨g, 2, none⟩ = some (.int .i64 (E : Int))) (first | go_keep)
          ((go_at_call 50; refine (dbus_zzVarType.calls (a.extract pos E) r1 r2 _ HPS.out).mono ?_; rintro e w6 ⟨rfl, ⟨m6, rfl⟩⟩))
        all_goals
          cases r2 with
          | true =>
            go_wp2_with (go_at_call 35; refine (HM.out _ _ _ (by repeat (first | exact HXE.out | apply Lx.drewN | apply Lx.drew | apply Lx.alloc)) (by omega) (by omega)).mono ?_; rintro e w8 ⟨rfl, hx8⟩; have HX8 := Aside0.mk hx8; clear hx8)
            go_ret
            rw [← HOO.out]
            exact ⟨rfl, _, by have := HX8.out; rw [← HE1E.out] at this; exact this⟩
          | false =>
            go_upto_region 14 with (fail)
            go_region_held3 (fun w' => w'.cell? ⟨g, 0, none⟩ = some (.string a) ∧ w'.cell? ⟨g, 1, none⟩ = some (.int .i64 (pos : Int)) ∧ w'.cell? ⟨g, 2, none⟩ = some (.int .i64 (E : Int))) (first | exact kk.out | go_keep)
              ((go_at_call 47; refine (HE.out _ _ _ _ _ (by repeat (first | exact HXE.out | apply Lx.drewN | apply Lx.drew | apply Lx.alloc))).mono ?_; rintro e w8 ⟨rfl, hx8⟩; have HX8 := Aside0.mk hx8; have kk := Aside0.mk (And.intro hx8.c0 (And.intro hx8.c1 hx8.c2)); clear hx8))
            all_goals
              go_wp2
              go_ret
              rw [← HOO.out]
              exact ⟨rfl, _, _, _, HX8.out⟩
      · have hbf : blankb c = false := by simpa using hb
        rw [hbf] at HSP
        go_wp2_with (go_at_call 39; refine (dbus_zzSpace.calls (c.toNat : Int) false _ HSP.out).mono ?_; rintro e w4 ⟨rfl, ⟨m4, rfl⟩⟩)
        have hsz : p + 1 ≤ a.size := sz_of HE1.out
        go_roundg (a.size - (p + 1))
        case measure => have := HI.out.1; omega
        case rel =>
          refine ⟨p + 1, 1, by omega, by omega, ⟨rfl, Lx.drewN HX3.out _, ?_⟩⟩
          rw [HI.out.2.2, HE1.out, HT1.out]
          simp only [typL, if_neg hnc, if_neg hb, Option.map_map]
          congr 1
          funext x
          simp only [Function.comp]
          omega
    · have h := HI.out.2.2
      rw [HTL.out, e1] at h
      simp only [typL, if_pos hc, Option.map_none] at h
      cases h


end Go.Proofs.YthcafnmagidpiaaDoor.MFnVtTokens
