-- A trial text of this session.
import Derived.Test.YtcnhpiodomknfaaGreatDoorMFnWrTurnedx12
namespace Go.Proofs.YtcnhpiodomknfaaGreatDoor.MFnWrTurned
open Go.RowKit Go.Proofs.YtcnhpiodomknfaaGreatDoorW.PrintWords Go.Proofs.YtcnhpiodomknfaaGreatDoorW.PrintLast Go.Proofs.YtcnhpiodomknfaaGreatDoorW.PrintMore
attribute [local go_sem] max2_int min2_int max_two min_two max_three min_three max_four min_four
set_option linter.unusedVariables false
set_option linter.unusedSimpArgs false

attribute [-go_sem] Builtin.append_
theorem info28v : (Tryz.prog.info? 28).map (fun i => (i.zero, i.size, i.bytes)) = some (some (.agg #[(.int .u8 0), (.int .u64 0), (.string ⟨#[]⟩), (.slice none 0 0)]), 4, 56) := by kernel_rfl
/-- The four cells of a number's value. -/
def c4 (c N : Int) : List Value := [.int .u8 c, .int .u64 N, .string ⟨#[]⟩, .slice none 0 0]
theorem c4_one (c N : Int) : ∀ v ∈ c4 c N, v.oneCell' = true := by intro v hv; simp [c4] at hv; rcases hv with rfl | rfl | rfl | rfl <;> rfl
theorem app4 (c N : Int) (i cv : Nat) (Av : Option Addr) (xs : List Value) (base g7 : Nat) (S : ByteArray) (w3 : World) (hi : i ≤ 200) (hO : w3.ownsRow base 28 4 (.slice Av i cv) i xs) (hg7 : g7 < base) (h7 : w3.heap[g7]? = some (.cells #[.int .u8 97, .int .u64 0, .string S, .slice Av i cv] 28 (0, 0))) (hb : base ≤ w3.heap.size) :
    ∃ A1 c1 w7, (Builtin.append_ #[26, 26] 26 #[.slice Av i cv, .slice (some ⟨w3.heap.size + 1, 0, none⟩) 1 1]).run Tryz.prog ((w3.alloc (.cells (c4 c N).toArray 28)).alloc (.cells (c4 c N).toArray 28)) = .ok (.slice A1 (i + 1) c1) w7 ∧ w7.ownsRow base 28 4 (.slice A1 (i + 1) c1) (i + 1) (xs ++ c4 c N) ∧ Below g7 w3 w7 ∧ w7.heap[g7]? = some (.cells #[.int .u8 97, .int .u64 0, .string S, .slice Av i cv] 28 (0, 0)) := by
  obtain ⟨i0, hi0, hz0⟩ := Option.map_eq_some_iff.1 info28v
  simp only [Prod.mk.injEq] at hz0
  have hn := World.news_of_block (cs := (c4 c N).toArray) (t := 28) (fr := (0, 0)) (heap_alloc_new (w3.alloc (.cells (c4 c N).toArray 28)) (.cells (c4 c N).toArray 28))
  rw [World.size_alloc] at hn
  obtain ⟨v1, w7, hr, hown, hg, _⟩ := run_append_own (P := Tryz.prog) ((w3.alloc (.cells (c4 c N).toArray 28)).alloc (.cells (c4 c N).toArray 28)) base 26 26 28 i0 _ 4 56 Tryz.underlying26 hi0 hz0.1 hz0.2.1 hz0.2.2 rfl (by omega) (.slice Av i cv) i xs ((hO.alloc _).alloc _) ⟨w3.heap.size + 1, 0, none⟩ 1 1 (c4 c N) rfl
    (by simpa using hn) (c4_one c N) (by unfold maxLen; omega) (by omega) (by simp; omega)
  obtain ⟨A1, c1, rfl⟩ := own_slice hown
  have hG := World.grownBy.trans (World.grownBy.trans (World.grownBy_alloc w3 (.cells (c4 c N).toArray 28) (Value.slice Av i cv).ownBlock) (World.grownBy_alloc _ (.cells (c4 c N).toArray 28) _)) hg
  have hob : ∀ k, (Value.slice Av i cv).ownBlock = some k → base ≤ k := fun k hk => own_base hO k hk
  refine ⟨A1, c1, w7, hr, hown, ⟨hG.os, hG.tape, hG.output, hG.size, fun k hk => hG.block k (by omega) (fun h => by have := hob k h.symm; omega)⟩, ?_⟩
  exact (hG.block g7 (by omega) (fun h => by have := hob _ h.symm; omega)).trans h7
theorem reps4 (c : Int) (nv : Nat → Int) (w : World) (base : Nat) (ok : Nat → Prop) (ms : List Nat) : Reps (k28.M w base ok) 4 (ms.map fun m => (⟨c, nv m, ⟨#[]⟩, []⟩ : S28)) (ms.flatMap fun m => c4 c (nv m)) := by
  have key : ∀ n, n ≤ ms.length → Reps (k28.M w base ok) 4 ((ms.take n).map fun m => (⟨c, nv m, ⟨#[]⟩, []⟩ : S28)) ((ms.take n).flatMap fun m => c4 c (nv m)) := by
    intro n
    induction n with
    | zero => exact fun _ => Reps.none _ _
    | succ n ih =>
      intro hn
      rw [List.take_succ_eq_append_getElem (by omega), List.map_append, List.flatMap_append]
      refine Reps.snoc (ih (by omega)) (c := c4 c (nv ms[n])) ?_ rfl
      exact k28_mkM w base ok ⟨c, nv ms[n], ⟨#[]⟩, []⟩ (Kd.R_nil _ _ _ _ _)
  have h := key ms.length (Nat.le_refl _)
  rwa [List.take_length] at h
/-- The array's value, laid anew as a list of one. -/
theorem kids_C (c : Int) (nv : Nat → Int) (ms : List Nat) (S : ByteArray) (w : World) (Av : Option Addr) (cv base : Nat) (hO : w.ownsRow base 28 4 (.slice Av ms.length cv) ms.length (ms.flatMap fun m => c4 c (nv m))) :
    Kd.C k28 (w.alloc (.cells #[.int .u8 97, .int .u64 0, .string S, .slice Av ms.length cv] 28)) (some ⟨w.heap.size, 0, none⟩) 1 [⟨97, 0, S, ms.map fun m => (⟨c, nv m, ⟨#[]⟩, []⟩ : S28)⟩] := by
  have hrow : OwnRow (k28.M w base fun _ => True) 28 4 w base (.slice Av ms.length cv) (ms.map fun m => (⟨c, nv m, ⟨#[]⟩, []⟩ : S28)) := ⟨_, by rw [List.length_map]; exact hO, reps4 c nv w base _ ms⟩
  obtain ⟨A2, c2, he, hl, hr⟩ := OwnRow.reads hrow
  rw [List.length_map] at he hl hr
  injection he with h1 _ h2
  subst h1 h2
  have hC : Kd.C k28 w Av ms.length (ms.map fun m => (⟨c, nv m, ⟨#[]⟩, []⟩ : S28)) := hr.imp_ (Below.refl _ _) (fun _ _ hp => k28.K_of_M hp)
  have hC2 := Kd.C_below hC (below_alloc (Below.refl _ _) (.cells #[.int .u8 97, .int .u64 0, .string S, .slice Av ms.length cv] 28))
  have hK := k28_mk (w.alloc (.cells #[.int .u8 97, .int .u64 0, .string S, .slice Av ms.length cv] 28)) ⟨97, 0, S, ms.map fun m => (⟨c, nv m, ⟨#[]⟩, []⟩ : S28)⟩ (A3 := Av) (c3 := cv) (by simpa using hl) (by simpa using hC2)
  have hlit := OwnRow.lit (R := k28.K (w.alloc (.cells #[.int .u8 97, .int .u64 0, .string S, .slice Av ms.length cv] 28))) (e := 28) (size := 4) (ps := [⟨97, 0, S, ms.map fun m => (⟨c, nv m, ⟨#[]⟩, []⟩ : S28)⟩]) w w.heap.size (inner := [.int .u8 97, .int .u64 0, .string S, .slice Av (ms.map fun m => (⟨c, nv m, ⟨#[]⟩, []⟩ : S28)).length cv])
    (by have h := Reps.snoc (Reps.none (k28.K (w.alloc (.cells #[.int .u8 97, .int .u64 0, .string S, .slice Av ms.length cv] 28))) 4) hK rfl; exact h) (Nat.le_refl _) (by simp)
  rw [List.length_map] at hlit
  obtain ⟨A4, c4', he, _, hr4⟩ := OwnRow.reads hlit
  injection he with h1 _ _
  subst h1
  exact hr4
theorem str1 (c : UInt8) : strOfNums [(c.toNat : Int)] = ⟨#[c]⟩ := by simp [strOfNums]
theorem up_heap3 {W w2 : World} (hb : Below W.heap.size W w2) {g : Nat} {o : Obj} (h : W.heap[g]? = some o) : w2.heap[g]? = some o := (hb.block g (Array.getElem?_eq_some_iff.1 h).1).trans h
theorem kids_C2 (c : Int) (nv : Nat → Int) (ms : List Nat) (n : Nat) (hn : ms.length = n) (S : ByteArray) (w : World) (Av : Option Addr) (cv base : Nat) (hO : w.ownsRow base 28 4 (.slice Av n cv) n (ms.flatMap fun m => c4 c (nv m))) :
    Kd.C k28 (w.alloc (.cells #[.int .u8 97, .int .u64 0, .string S, .slice Av n cv] 28)) (some ⟨w.heap.size, 0, none⟩) 1 [⟨97, 0, S, ms.map fun m => (⟨c, nv m, ⟨#[]⟩, []⟩ : S28)⟩] := by
  subst hn
  exact kids_C c nv ms S w Av cv base hO
theorem below_weaken {b b' : Nat} {w W : World} (h : Below b w W) (hb : b' ≤ b) : Below b' w W := ⟨h.os, h.tape, h.output, h.size, fun k hk => h.block k (Nat.lt_of_lt_of_le hk hb)⟩
theorem take_c4 (c : Int) (nv : Nat → Int) (k : Nat) (vs : List Nat) (i v : Nat) (hv : vs[i]? = some v) : ((vs.take (i + 1)).map fun v => v % 256 ^ k).flatMap (fun m => c4 c (nv m)) = ((vs.take i).map fun v => v % 256 ^ k).flatMap (fun m => c4 c (nv m)) ++ c4 c (nv (v % 256 ^ k)) := by
  obtain ⟨hl, rfl⟩ := List.getElem?_eq_some_iff.1 hv
  rw [List.take_succ_eq_append_getElem hl, List.map_append, List.flatMap_append]
  simp

end Go.Proofs.YtcnhpiodomknfaaGreatDoor.MFnWrTurned
