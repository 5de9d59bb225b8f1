-- Texts of this session, several in one.
import Derived.Test.YtboioihppjhjcaaDoorProg
import Derived.Below
import Derived.Deep.Draws
import Derived.Deep.AppendLies
import Derived.Maps.AppendAt
import Derived.OwnWalk
import Derived.Laws.BytesArg
import Derived.Laws.MakeOwn
import Derived.Laws.OwnMore
import Derived.Deep.OwnRows
import Derived.Tactics
import Derived.Lib.ConvBytes
import Derived.Laws.Slices
import Derived.WalkKit
import Derived.KernelRfl
import Derived.RowKit3
import Derived.Deep.LoopGhost
import Derived.Deep.QuietTactic
import Derived.BigQuiet
import Derived.WideLaws
import Derived.Deep.DeepCutAuto
import Derived.Deep.CutBlock
import Derived.Deep.RegionHeld3
import Derived.Laws.Rows
import Derived.Lib.AppendStr
import Derived.ArgAppend
import Derived.Laws.IdiomCopy
import Derived.OrdersHeld
import Derived.Laws.BitsLemmas
import Derived.RowKit
import Derived.Lib.OthersKept
import Derived.Test.YtboioihppjhjcaaDoorQBW
namespace Go.Proofs.YtboioihppjhjcaaDoor.MFnSgOf
open Go.RowKit Go.Proofs.YtboioihppjhjcaaDoorW.PrintWords Go.Proofs.YtboioihppjhjcaaDoorW.PrintLast Go.Proofs.YtboioihppjhjcaaDoorW.PrintMore
attribute [local go_sem] max2_int min2_int max_two min_two max_three min_three max_four min_four   -- for this text's walks alone
set_option linter.unusedVariables false
set_option linter.unusedSimpArgs false



def errW : Option (TypeId × Value) → Value
 | none => .nilIface
 | some c => .iface c.1 c.2
theorem wrap64_id {x : Int} (h1 : -9223372036854775808 ≤ x) (h2 : x ≤ 9223372036854775807) : wrap64 x = x := by unfold wrap64; omega
theorem errW_none : errW none = .nilIface := rfl
theorem errW_some (c : TypeId × Value) : errW (some c) = .iface c.1 c.2 := rfl

theorem info9 : (Tryd.prog.info? 9).map (fun i => (i.zero, i.size, i.bytes)) = some (some (.string ⟨#[]⟩), 1, 16) := by kernel_rfl
theorem info53 : (Tryd.prog.info? 53).map (fun i => (i.zero, i.size, i.bytes)) = some (some (.agg #[(.int .u8 0), (.int .u64 0), (.string ⟨#[]⟩), (.slice none 0 0)]), 4, 56) := by kernel_rfl
theorem info71 : (Tryd.prog.info? 71).map (fun i => (i.zero, i.size, i.bytes)) = some (some (.string ⟨#[]⟩), 1, 16) := by kernel_rfl
-- the values' own types
/-! #### struct type 31, nested in itself -/
structure S31 where
 f0 : Int
 f1 : Int
 f2 : ByteArray
 f3 : (List S31)
def z31 : S31 := ⟨(0 : Int), (0 : Int), (⟨#[]⟩ : ByteArray), ([] : List S31)⟩
def F31 (d : Kd S31) : Kd S31 := Kd.iso (Kd.pair (Kd.int .u8) (Kd.pair (Kd.int .u64) (Kd.pair Kd.string (Kd.slice 31 d)))) (fun x : S31 => (x.f0, x.f1, x.f2, x.f3))
theorem mono31 : Kd.Mono F31 := Kd.mono_iso _ (Kd.mono_pair (Kd.mono_const _) (Kd.mono_pair (Kd.mono_const _) (Kd.mono_pair (Kd.mono_const _) (Kd.mono_slice 31 Kd.mono_id))))
theorem sub31 : Kd.Sub F31 [31] := Kd.sub_iso _ (Kd.sub_pair (Kd.sub_const _ (by decide)) (Kd.sub_pair (Kd.sub_const _ (by decide)) (Kd.sub_pair (Kd.sub_const _ (by decide)) (Kd.sub_slice 31 (by decide) Kd.sub_id))))
theorem sz31 : ∀ n, (Kd.upto F31 4 [31] n).sz = 4 := Kd.upto_sz (fun _ => rfl)
def k31 : Kd S31 := Kd.fix F31 4 [31] sz31 (Kd.upto_E sub31)
theorem k31_open {w : World} {x : S31} {cs : List Value} (h : k31.K w x cs) : ∃ A3 c3, cs = [.int .u8 x.f0, .int .u64 x.f1, .string x.f2, .slice A3 x.f3.length c3] ∧ x.f3.length ≤ c3 ∧ k31.C w A3 x.f3.length x.f3 := by
 obtain ⟨n, h⟩ := h
 cases n with
 | zero => exact h.elim
 | succ n =>
  obtain ⟨_, _, rfl, rfl, ⟨_, _, rfl, rfl, ⟨_, _, rfl, rfl, ⟨A3, c3, rfl, l3, g3⟩⟩⟩⟩ := h
  exact ⟨A3, c3, rfl, l3, Kd.fix_C g3⟩
theorem k31_mk (w : World) (x : S31) {A3 : Option Addr} {c3 : Nat} (l3 : x.f3.length ≤ c3) (g3 : k31.C w A3 x.f3.length x.f3) : k31.K w x [.int .u8 x.f0, .int .u64 x.f1, .string x.f2, .slice A3 x.f3.length c3] := by
 obtain ⟨n3, q3⟩ := Kd.fix_C_back mono31 g3
 have r3 := Kd.upto_C_le mono31 sz31 (show n3 ≤ n3 by omega) q3
 exact ⟨n3 + 1, ⟨[.int .u8 x.f0], [.int .u64 x.f1, .string x.f2, .slice A3 x.f3.length c3], rfl, rfl, ⟨[.int .u64 x.f1], [.string x.f2, .slice A3 x.f3.length c3], rfl, rfl, ⟨[.string x.f2], [.slice A3 x.f3.length c3], rfl, rfl, ⟨A3, c3, rfl, l3, r3⟩⟩⟩⟩⟩
def rd_T31 (xs : List S31) (i : Int) : S31 := xs.getD i.toNat z31
theorem at_T31 {w : World} {A : Option Addr} {n : Nat} {xs : List S31} (h : Kd.C k31 w A n xs) (i : Int) (h0 : 0 ≤ i) (h1 : i < n) : ∃ ad A3 c3, A = some ad ∧ w.cell? (ad.add (i.toNat * 4)) = some (.int .u8 (rd_T31 xs i).f0) ∧ w.cell? ⟨(ad.add (i.toNat * 4)).block, (ad.add (i.toNat * 4)).off + 1, none⟩ = some (.int .u64 (rd_T31 xs i).f1) ∧ w.cell? ⟨(ad.add (i.toNat * 4)).block, (ad.add (i.toNat * 4)).off + 2, none⟩ = some (.string (rd_T31 xs i).f2) ∧ w.cell? ⟨(ad.add (i.toNat * 4)).block, (ad.add (i.toNat * 4)).off + 3, none⟩ = some (.slice A3 (rd_T31 xs i).f3.length c3) ∧ (rd_T31 xs i).f3.length ≤ c3 ∧ k31.C w A3 (rd_T31 xs i).f3.length (rd_T31 xs i).f3 := by
 obtain ⟨ad, c, e, _, hK, hc0⟩ := Kd.C_get h z31 i h0 h1
 have hc : ∀ j u, c[j]? = some u → w.cell? (ad.add (i.toNat * 4 + j)) = some u := hc0
 obtain ⟨A3, c3, rfl, l3, g3⟩ := k31_open hK
 exact ⟨ad, A3, c3, e, hc 0 _ rfl, by rw [← add_field _ _ 1 (by omega)]; exact hc 1 _ rfl, by rw [← add_field _ _ 2 (by omega)]; exact hc 2 _ rfl, by rw [← add_field _ _ 3 (by omega)]; exact hc 3 _ rfl, l3, g3⟩

/-! #### struct type 53, nested in itself -/
structure S53 where
 f0 : Int
 f1 : Int
 f2 : ByteArray
 f3 : (List S53)
def z53 : S53 := ⟨(0 : Int), (0 : Int), (⟨#[]⟩ : ByteArray), ([] : List S53)⟩
def F53 (d : Kd S53) : Kd S53 := Kd.iso (Kd.pair (Kd.int .u8) (Kd.pair (Kd.int .u64) (Kd.pair Kd.string (Kd.slice 53 d)))) (fun x : S53 => (x.f0, x.f1, x.f2, x.f3))
theorem mono53 : Kd.Mono F53 := Kd.mono_iso _ (Kd.mono_pair (Kd.mono_const _) (Kd.mono_pair (Kd.mono_const _) (Kd.mono_pair (Kd.mono_const _) (Kd.mono_slice 53 Kd.mono_id))))
theorem sub53 : Kd.Sub F53 [53] := Kd.sub_iso _ (Kd.sub_pair (Kd.sub_const _ (by decide)) (Kd.sub_pair (Kd.sub_const _ (by decide)) (Kd.sub_pair (Kd.sub_const _ (by decide)) (Kd.sub_slice 53 (by decide) Kd.sub_id))))
theorem sz53 : ∀ n, (Kd.upto F53 4 [53] n).sz = 4 := Kd.upto_sz (fun _ => rfl)
def k53 : Kd S53 := Kd.fix F53 4 [53] sz53 (Kd.upto_E sub53)
theorem k53_open {w : World} {x : S53} {cs : List Value} (h : k53.K w x cs) : ∃ A3 c3, cs = [.int .u8 x.f0, .int .u64 x.f1, .string x.f2, .slice A3 x.f3.length c3] ∧ x.f3.length ≤ c3 ∧ k53.C w A3 x.f3.length x.f3 := by
 obtain ⟨n, h⟩ := h
 cases n with
 | zero => exact h.elim
 | succ n =>
  obtain ⟨_, _, rfl, rfl, ⟨_, _, rfl, rfl, ⟨_, _, rfl, rfl, ⟨A3, c3, rfl, l3, g3⟩⟩⟩⟩ := h
  exact ⟨A3, c3, rfl, l3, Kd.fix_C g3⟩
theorem k53_mkM (w : World) (base : Nat) (ok : Nat → Prop) (x : S53) {v3 : Value} (g3 : k53.R 53 w base ok v3 x.f3) : k53.M w base ok x [.int .u8 x.f0, .int .u64 x.f1, .string x.f2, v3] := by
 obtain ⟨n3, q3⟩ := Kd.fix_R_back mono53 g3
 have r3 := Kd.upto_R_le mono53 sz53 (show n3 ≤ n3 by omega) q3
 exact ⟨n3 + 1, ⟨[.int .u8 x.f0], [.int .u64 x.f1, .string x.f2, v3], rfl, rfl, ⟨[.int .u64 x.f1], [.string x.f2, v3], rfl, rfl, ⟨[.string x.f2], [v3], rfl, rfl, ⟨v3, rfl, r3⟩⟩⟩⟩⟩
def rd_T53 (xs : List S53) (i : Int) : S53 := xs.getD i.toNat z53
theorem at_T53 {w : World} {A : Option Addr} {n : Nat} {xs : List S53} (h : Kd.C k53 w A n xs) (i : Int) (h0 : 0 ≤ i) (h1 : i < n) : ∃ ad A3 c3, A = some ad ∧ w.cell? (ad.add (i.toNat * 4)) = some (.int .u8 (rd_T53 xs i).f0) ∧ w.cell? ⟨(ad.add (i.toNat * 4)).block, (ad.add (i.toNat * 4)).off + 1, none⟩ = some (.int .u64 (rd_T53 xs i).f1) ∧ w.cell? ⟨(ad.add (i.toNat * 4)).block, (ad.add (i.toNat * 4)).off + 2, none⟩ = some (.string (rd_T53 xs i).f2) ∧ w.cell? ⟨(ad.add (i.toNat * 4)).block, (ad.add (i.toNat * 4)).off + 3, none⟩ = some (.slice A3 (rd_T53 xs i).f3.length c3) ∧ (rd_T53 xs i).f3.length ≤ c3 ∧ k53.C w A3 (rd_T53 xs i).f3.length (rd_T53 xs i).f3 := by
 obtain ⟨ad, c, e, _, hK, hc0⟩ := Kd.C_get h z53 i h0 h1
 have hc : ∀ j u, c[j]? = some u → w.cell? (ad.add (i.toNat * 4 + j)) = some u := hc0
 obtain ⟨A3, c3, rfl, l3, g3⟩ := k53_open hK
 exact ⟨ad, A3, c3, e, hc 0 _ rfl, by rw [← add_field _ _ 1 (by omega)]; exact hc 1 _ rfl, by rw [← add_field _ _ 2 (by omega)]; exact hc 2 _ rfl, by rw [← add_field _ _ 3 (by omega)]; exact hc 3 _ rfl, l3, g3⟩

end Go.Proofs.YtboioihppjhjcaaDoor.MFnSgOf

namespace Go.Proofs.YtboioihppjhjcaaDoor.MFnSgOf
open Go.RowKit Go.Proofs.YtboioihppjhjcaaDoorW.PrintWords Go.Proofs.YtboioihppjhjcaaDoorW.PrintLast Go.Proofs.YtboioihppjhjcaaDoorW.PrintMore
attribute [local go_sem] max2_int min2_int max_two min_two max_three min_three max_four min_four   -- for this text's walks alone
set_option linter.unusedVariables false
set_option linter.unusedSimpArgs false

/-! ### spec_SigOf: function 17 -/
mutual
def spec_SigOf.j0 : Nat → Bool → Int → Int → ByteArray → List (S31) → Option (ByteArray)
 | 0, _, _, _, _, _ => none
 | k + 1, x14, x102000, x102001, x102002, x102003 => if x14 = true then (if x102000 = 123 then (spec_SigOf.j1 k (⟨#[125]⟩ : ByteArray) x102000 x102001 x102002 x102003) else (spec_SigOf.j1 k (⟨#[41]⟩ : ByteArray) x102000 x102001 x102002 x102003)) else (some (strOfNums (([x102000] : List Int))))
def spec_SigOf.j1 : Nat → ByteArray → Int → Int → ByteArray → List (S31) → Option (ByteArray)
 | 0, _, _, _, _, _ => none
 | k + 1, x3, x102000, x102001, x102002, x102003 => spec_SigOf.l0 k x3 (strOfNums (([x102000] : List Int))) x102003 (x102003.length : Int) 0
def spec_SigOf.l0 : Nat → ByteArray → ByteArray → List (S31) → Int → Int → Option (ByteArray)
 | 0, _, _, _, _, _ => none
 | k + 1, x3, x4, x25, x26, x27 => if x27 < x26 then (if 0 ≤ x27 then (if x27 < (x25.length : Int) then ((spec_SigOf.f k ((rd_T31 x25 x27).f0) ((rd_T31 x25 x27).f1) ((rd_T31 x25 x27).f2) ((rd_T31 x25 x27).f3)).bind fun t107 => (if x4.size + t107.size ≤ 9223372036854775807 then (spec_SigOf.l0 k x3 (x4 ++ t107) x25 x26 (wrap64 (x27 + 1))) else (none))) else (none)) else (none)) else (if x4.size + x3.size ≤ 9223372036854775807 then (some (x4 ++ x3)) else (none))
def spec_SigOf.f : Nat → Int → Int → ByteArray → List (S31) → Option (ByteArray)
 | 0, _, _, _, _ => none
 | k + 1, a0_0, a0_1, a0_2, l0_3 => if a0_0 = 97 then (if 1 + a0_2.size ≤ 9223372036854775807 then (some ((⟨#[97]⟩ : ByteArray) ++ a0_2)) else (none)) else (if a0_0 = 40 then (spec_SigOf.j0 k (a0_0 == 40) a0_0 a0_1 a0_2 l0_3) else (spec_SigOf.j0 k (a0_0 == 123) a0_0 a0_1 a0_2 l0_3))
end
set_option maxHeartbeats 8000000 in
set_option maxRecDepth 100000 in
theorem spec_SigOf.calls (k : Nat) : ∀ (a0_0 : Int) (a0_1 : Int) (a0_2 : ByteArray) (A0_3 : Option Addr) (c0_3 : Nat) (l0_3 : List (S31)) (r : ByteArray) (w : World) (hr0_3 : Kd.C k31 w A0_3 l0_3.length l0_3) (hc0_3 : l0_3.length ≤ c0_3) (h : spec_SigOf.f k a0_0 a0_1 a0_2 l0_3 = some r),
  Calls Tryd.prog 17 #[.agg #[.int .u8 a0_0, .int .u64 a0_1, .string a0_2, .slice A0_3 l0_3.length c0_3]] w fun e w' => e = .returned (.string r) ∧ Below w.heap.size w w' := by
 induction k using Nat.strongRecOn with
 | _ k ih =>
 intro a0_0 a0_1 a0_2 A0_3 c0_3 l0_3 r w hr0_3 hc0_3 h
 cases k with
 | zero => exact absurd h (by simp [spec_SigOf.f])
 | succ k =>
 simp only [spec_SigOf.f] at h
 have hu31 := Tryd.underlying31
 have HR0_3 := Aside0.mk hr0_3
 have HC0_3 := Aside0.mk hc0_3
 clear hr0_3 hc0_3
 have HB := Aside0.mk (Below.refl w.heap.size w)
 have H : (if a0_0 = 97 then (if 1 + a0_2.size ≤ 9223372036854775807 then (some ((⟨#[97]⟩ : ByteArray) ++ a0_2)) else (none)) else (if a0_0 = 40 then (spec_SigOf.j0 k (a0_0 == 40) a0_0 a0_1 a0_2 l0_3) else (spec_SigOf.j0 k (a0_0 == 123) a0_0 a0_1 a0_2 l0_3))) = some r := h
 clear h
 by_cases c2 : a0_0 = 97
 ·rw [if_pos c2] at H
  have c2b0 : (a0_0 == 97) = true := beq_iff_eq.mpr c2
  have c2b1 : (a0_0 != 97) = false := bne_eq_false_iff_eq.mpr c2
  clear c2
  by_cases c3 : 1 + a0_2.size ≤ 9223372036854775807
  ·rw [if_pos c3] at H
   have c3b0 := eq_true c3
   have c3b1 : decide (1 + a0_2.size ≤ 9223372036854775807) = true := decide_eq_true c3
   try have c3b2 : (9223372036854775807 < 1 + a0_2.size) = False := eq_false (Nat.not_lt.2 c3)
   obtain rfl := Option.some.inj H
   go_enter Tryd.func17, Tryd.ntmps17
   go_wp2_with (first | ((with_reducible refine gate_dst (N := 1) rfl ?_); refine box_event ?hg (N := 1) ?hd (cs := #[.int .u8 a0_0, .int .u64 a0_1, .string a0_2, .slice A0_3 l0_3.length c0_3]) (t := 31) ?hr ?_; (case hd => rfl); (case hg => rfl); (case hr => first | (go_simp; done) | (go_simp; rfl)); intro gb101 hg w4 hbox hb; have n0_ := Aside0.mk (below_step (by repeat (first | (with_reducible first | exact HB.out | apply below_alloc | apply pw_below_drewN | apply below_drew1) | exact HB.out)) hb); have n1_ := Aside0.mk (hbox); have n2_ := Aside0.mk ((by rw [hg]; exact (below_size (by repeat (first | (with_reducible first | exact HB.out | apply below_alloc | apply pw_below_drewN | apply below_drew1) | exact HB.out))) : w.heap.size ≤ gb101)); have n3_ := Aside0.mk ((by rw [hg]; exact (below_size (by repeat (first | (with_reducible first | exact HB.out | apply below_alloc | apply pw_below_drewN | apply below_drew1) | exact HB.out))) : w.heap.size ≤ gb101)); clear HB; have HB := n0_; have BK101 := n1_; have GW101 := n2_; have GE101 := n3_; clear n0_ n1_ n2_ n3_; clear hb hbox hg; have hcz5_0 : w4.cell? ⟨gb101, 0, none⟩ = some (.int .u8 a0_0) := (blk_cell BK101.out 0).trans rfl; have hcz5_1 : w4.cell? ⟨gb101, 1, none⟩ = some (.int .u64 a0_1) := (blk_cell BK101.out 1).trans rfl; have hcz5_2 : w4.cell? ⟨gb101, 2, none⟩ = some (.string a0_2) := (blk_cell BK101.out 2).trans rfl; have hcz5_3 : w4.cell? ⟨gb101, 3, none⟩ = some (.slice A0_3 l0_3.length c0_3) := (blk_cell BK101.out 3).trans rfl; have hfz5_0 := blk_frozen BK101.out 0; have hfz5_1 := blk_frozen BK101.out 1; have hfz5_2 := blk_frozen BK101.out 2; have hfz5_3 := blk_frozen BK101.out 3))
   go_ret
   exact ⟨by first | rfl | (simp [errW_none, errW_some] <;> rfl) | (simp [*, errW_none, errW_some] <;> rfl) | (simp (disch := omega) only [wrap64_id] <;> rfl), by repeat (first | (with_reducible first | exact HB.out | apply below_alloc | apply pw_below_drewN | apply below_drew1 | refine below_set ?_ GE101.out) | exact HB.out)⟩
  ·rw [if_neg c3] at H
   exact absurd H (by simp)
 ·rw [if_neg c2] at H
  have c2b0 : (a0_0 == 97) = false := beq_eq_false_iff_ne.mpr c2
  have c2b1 : (a0_0 != 97) = true := bne_iff_ne.mpr c2
  have HC6 := Aside0.mk H
  clear H
  go_enter Tryd.func17, Tryd.ntmps17
  go_upto_if 14 with (first | ((with_reducible refine gate_dst (N := 1) rfl ?_); refine box_event ?hg (N := 1) ?hd (cs := #[.int .u8 a0_0, .int .u64 a0_1, .string a0_2, .slice A0_3 l0_3.length c0_3]) (t := 31) ?hr ?_; (case hd => rfl); (case hg => rfl); (case hr => first | (go_simp; done) | (go_simp; rfl)); intro gb101 hg w7 hbox hb; have n0_ := Aside0.mk (below_step (by repeat (first | (with_reducible first | exact HB.out | apply below_alloc | apply pw_below_drewN | apply below_drew1) | exact HB.out)) hb); have n1_ := Aside0.mk (hbox); have n2_ := Aside0.mk ((by rw [hg]; exact (below_size (by repeat (first | (with_reducible first | exact HB.out | apply below_alloc | apply pw_below_drewN | apply below_drew1) | exact HB.out))) : w.heap.size ≤ gb101)); have n3_ := Aside0.mk ((by rw [hg]; exact (below_size (by repeat (first | (with_reducible first | exact HB.out | apply below_alloc | apply pw_below_drewN | apply below_drew1) | exact HB.out))) : w.heap.size ≤ gb101)); clear HB; have HB := n0_; have BK101 := n1_; have GW101 := n2_; have GE101 := n3_; clear n0_ n1_ n2_ n3_; clear hb hbox hg; have hcz8_0 : w7.cell? ⟨gb101, 0, none⟩ = some (.int .u8 a0_0) := (blk_cell BK101.out 0).trans rfl; have hcz8_1 : w7.cell? ⟨gb101, 1, none⟩ = some (.int .u64 a0_1) := (blk_cell BK101.out 1).trans rfl; have hcz8_2 : w7.cell? ⟨gb101, 2, none⟩ = some (.string a0_2) := (blk_cell BK101.out 2).trans rfl; have hcz8_3 : w7.cell? ⟨gb101, 3, none⟩ = some (.slice A0_3 l0_3.length c0_3) := (blk_cell BK101.out 3).trans rfl; have hfz8_0 := blk_frozen BK101.out 0; have hfz8_1 := blk_frozen BK101.out 1; have hfz8_2 := blk_frozen BK101.out 2; have hfz8_3 := blk_frozen BK101.out 3))
  (try simp only [Act.put, List.setIfInBounds_toArray, List.set_cons_zero, List.set_cons_succ])
  go_cut [14] (fun v14 wc => ∃ (kq : Nat) (x14_5 : Bool), v14 = .bool x14_5 ∧ Aside0 (spec_SigOf.j0 kq x14_5 a0_0 a0_1 a0_2 l0_3 = some r) ∧ Aside0 (kq ≤ k) ∧ Aside0 (wc.heap[gb101]? = some (.cells #[.int .u8 a0_0, .int .u64 a0_1, .string a0_2, (.slice A0_3 l0_3.length c0_3)] 31 (0, 0))) ∧ Aside0 (Below w.heap.size w wc))
  case first =>
   have H := HC6.out
   clear HC6
   by_cases c9 : a0_0 = 40
   ·rw [if_pos c9] at H
    have c9b0 : (a0_0 == 40) = true := beq_iff_eq.mpr c9
    have c9b1 : (a0_0 != 40) = false := bne_eq_false_iff_eq.mpr c9
    clear c9
    (first | rw [c9b0] | (simp only [i64_w, i32_w]; rw [c9b0]) | skip)
    have H' := Aside0.mk H
    clear H
    go_wp2
    go_meet
    case rel => exact ⟨_, ((a0_0 == 40)), (by first | rfl | (simp; done) | (simp [*]; done)), H', ⟨by first | omega | exact Nat.le_refl _⟩, ⟨by (with_reducible repeat (first | refine blk_drewN ?_ _ | refine blk_drew ?_ | refine blk_alloc ?_ _)); exact BK101.out⟩, ⟨by repeat (first | (with_reducible first | exact HB.out | apply below_alloc | apply pw_below_drewN | apply below_drew1 | refine below_set ?_ GE101.out) | exact HB.out)⟩⟩
   ·rw [if_neg c9] at H
    have c9b0 : (a0_0 == 40) = false := beq_eq_false_iff_ne.mpr c9
    have c9b1 : (a0_0 != 40) = true := bne_iff_ne.mpr c9
    (first | rw [c9b0] | (simp only [i64_w, i32_w]; rw [c9b0]) | skip)
    have H' := Aside0.mk H
    clear H
    go_wp2
    go_meet
    case rel => exact ⟨_, ((a0_0 == 123)), (by first | rfl | (simp; done) | (simp [*]; done)), H', ⟨by first | omega | exact Nat.le_refl _⟩, ⟨by (with_reducible repeat (first | refine blk_drewN ?_ _ | refine blk_drew ?_ | refine blk_alloc ?_ _)); exact BK101.out⟩, ⟨by repeat (first | (with_reducible first | exact HB.out | apply below_alloc | apply pw_below_drewN | apply below_drew1 | refine below_set ?_ GE101.out) | exact HB.out)⟩⟩
  case rest =>
   clear HC6
   try clear c1
   try clear c2
   try clear c2b0
   try clear c2b1
   try clear p2
   try clear c3
   try clear c3b0
   try clear c3b1
   try clear c3b2
   try clear p6
   try clear c9
   try clear c9b0
   try clear c9b1
   try clear hcz5_0
   try clear hcz5_1
   try clear hcz5_2
   try clear hcz5_3
   try clear hcz8_0
   try clear hcz8_1
   try clear hcz8_2
   try clear hcz8_3
   try clear hfz5_0
   try clear hfz5_1
   try clear hfz5_2
   try clear hfz5_3
   try clear hfz8_0
   try clear hfz8_1
   try clear hfz8_2
   try clear hfz8_3
   obtain ⟨kq, x14_5, rfl, HA, HJ5, BK101, HB⟩ := hcut
   cases kq with
   | zero => exact absurd HA.out (by simp [spec_SigOf.j0])
   | succ kj5 =>
    have H := HA.out
    clear HA
    simp only [spec_SigOf.j0] at H
    by_cases c10 : x14_5 = true
    ·subst c10
     have H1 : (if a0_0 = 123 then (spec_SigOf.j1 kj5 (⟨#[125]⟩ : ByteArray) a0_0 a0_1 a0_2 l0_3) else (spec_SigOf.j1 kj5 (⟨#[41]⟩ : ByteArray) a0_0 a0_1 a0_2 l0_3)) = some r := by rw [if_pos rfl] at H; exact H
     clear H
     have H := H1
     clear H1
     have HC11 := Aside0.mk H
     clear H
     have hcz12_0 : wc.cell? ⟨gb101, 0, none⟩ = some (.int .u8 a0_0) := (blk_cell BK101.out 0).trans rfl
     have hcz12_1 : wc.cell? ⟨gb101, 1, none⟩ = some (.int .u64 a0_1) := (blk_cell BK101.out 1).trans rfl
     have hcz12_2 : wc.cell? ⟨gb101, 2, none⟩ = some (.string a0_2) := (blk_cell BK101.out 2).trans rfl
     have hcz12_3 : wc.cell? ⟨gb101, 3, none⟩ = some (.slice A0_3 l0_3.length c0_3) := (blk_cell BK101.out 3).trans rfl
     have hfz12_0 := blk_frozen BK101.out 0
     have hfz12_1 := blk_frozen BK101.out 1
     have hfz12_2 := blk_frozen BK101.out 2
     have hfz12_3 := blk_frozen BK101.out 3
     go_upto_if 19 with (fail)
     go_cut [3] (fun v3 wc => ∃ (kq : Nat) (x3_10 : ByteArray), v3 = .string x3_10 ∧ Aside0 (spec_SigOf.j1 kq x3_10 a0_0 a0_1 a0_2 l0_3 = some r) ∧ Aside0 (kq ≤ kj5) ∧ Aside0 (wc.heap[gb101]? = some (.cells #[.int .u8 a0_0, .int .u64 a0_1, .string a0_2, (.slice A0_3 l0_3.length c0_3)] 31 (0, 0))) ∧ Aside0 (Below w.heap.size w wc))
     case first =>
      have H := HC11.out
      clear HC11
      by_cases c13 : a0_0 = 123
      ·rw [if_pos c13] at H
       have c13b0 : (a0_0 == 123) = true := beq_iff_eq.mpr c13
       have c13b1 : (a0_0 != 123) = false := bne_eq_false_iff_eq.mpr c13
       clear c13
       (first | rw [c13b0] | (simp only [i64_w, i32_w]; rw [c13b0]) | skip)
       have H' := Aside0.mk H
       clear H
       go_wp2
       go_meet
       case rel => exact ⟨_, ((⟨#[125]⟩ : ByteArray)), (by first | rfl | (simp; done) | (simp [*]; done)), H', ⟨by have := HJ5.out; first | omega | exact Nat.le_refl _⟩, ⟨by (with_reducible repeat (first | refine blk_drewN ?_ _ | refine blk_drew ?_ | refine blk_alloc ?_ _)); exact BK101.out⟩, ⟨by repeat (first | (with_reducible first | exact HB.out | apply below_alloc | apply pw_below_drewN | apply below_drew1 | refine below_set ?_ GE101.out) | exact HB.out)⟩⟩
      ·rw [if_neg c13] at H
       have c13b0 : (a0_0 == 123) = false := beq_eq_false_iff_ne.mpr c13
       have c13b1 : (a0_0 != 123) = true := bne_iff_ne.mpr c13
       (first | rw [c13b0] | (simp only [i64_w, i32_w]; rw [c13b0]) | skip)
       have H' := Aside0.mk H
       clear H
       go_wp2
       go_meet
       case rel => exact ⟨_, ((⟨#[41]⟩ : ByteArray)), (by first | rfl | (simp; done) | (simp [*]; done)), H', ⟨by have := HJ5.out; first | omega | exact Nat.le_refl _⟩, ⟨by (with_reducible repeat (first | refine blk_drewN ?_ _ | refine blk_drew ?_ | refine blk_alloc ?_ _)); exact BK101.out⟩, ⟨by repeat (first | (with_reducible first | exact HB.out | apply below_alloc | apply pw_below_drewN | apply below_drew1 | refine below_set ?_ GE101.out) | exact HB.out)⟩⟩
     case rest =>
      clear HC11
      try clear c1
      try clear c2
      try clear c2b0
      try clear c2b1
      try clear p2
      try clear c3
      try clear c3b0
      try clear c3b1
      try clear c3b2
      try clear p6
      try clear c9
      try clear c9b0
      try clear c9b1
      try clear c10
      try clear c13
      try clear c13b0
      try clear c13b1
      try clear hcz12_0
      try clear hcz12_1
      try clear hcz12_2
      try clear hcz12_3
      try clear hcz5_0
      try clear hcz5_1
      try clear hcz5_2
      try clear hcz5_3
      try clear hcz8_0
      try clear hcz8_1
      try clear hcz8_2
      try clear hcz8_3
      try clear hfz12_0
      try clear hfz12_1
      try clear hfz12_2
      try clear hfz12_3
      try clear hfz5_0
      try clear hfz5_1
      try clear hfz5_2
      try clear hfz5_3
      try clear hfz8_0
      try clear hfz8_1
      try clear hfz8_2
      try clear hfz8_3
      try clear p2
      try clear p6
      obtain ⟨kq, x3_10, rfl, HA, HJ10, BK101, HB⟩ := hcut
      cases kq with
      | zero => exact absurd HA.out (by simp [spec_SigOf.j1])
      | succ kj10 =>
       have H := HA.out
       clear HA
       simp only [spec_SigOf.j1] at H
       obtain ⟨y102, hy102⟩ : ∃ y_ : List Int, y_ = (([a0_0] : List Int)) := ⟨_, rfl⟩
       replace H : (spec_SigOf.l0 kj10 x3_10 (strOfNums y102) l0_3 (l0_3.length : Int) 0) = some r := by first | (rw [hy102]; with_reducible exact H) | (have H2_ := (Option.bind_some _ _).symm.trans H; rw [hy102]; with_reducible exact H2_) | (have H2_ := (Option.bind_some _ _).symm.trans H; with_reducible exact H2_) | with_reducible exact H | (rw [hy102]; exact H) | exact H
       have Ny102 := Aside0.mk hy102
       clear hy102
       have H' := Aside0.mk H
       clear H
       have hcz14_0 : wc.cell? ⟨gb101, 0, none⟩ = some (.int .u8 a0_0) := (blk_cell BK101.out 0).trans rfl
       have hcz14_1 : wc.cell? ⟨gb101, 1, none⟩ = some (.int .u64 a0_1) := (blk_cell BK101.out 1).trans rfl
       have hcz14_2 : wc.cell? ⟨gb101, 2, none⟩ = some (.string a0_2) := (blk_cell BK101.out 2).trans rfl
       have hcz14_3 : wc.cell? ⟨gb101, 3, none⟩ = some (.slice A0_3 l0_3.length c0_3) := (blk_cell BK101.out 3).trans rfl
       have hfz14_0 := blk_frozen BK101.out 0
       have hfz14_1 := blk_frozen BK101.out 1
       have hfz14_2 := blk_frozen BK101.out 2
       have hfz14_3 := blk_frozen BK101.out 3
       go_wp2_with (first | ((with_reducible refine gate_dst (N := 22) rfl ?_); refine Kd.R_lit (Kd.int .u8) _ 5 ?hg (N := 22) ?hd (xs := ([a0_0] : List Int)) (inner := [.int .u8 a0_0]) (ok := fun _ => True) (okp := fun _ => True) ?hr ?hp (fun _ hk => hk) trivial (Below.refl _ _) (Nat.le_refl _) (by simp) ?_; (case hd => rfl); (case hg => rfl); (case hr => first | (go_simp; done) | (go_simp; rfl)); (case hp => exact (Reps.one (show Kd.M (Kd.int .u8) _ _ _ a0_0 [.int .u8 a0_0] from rfl) (Reps.none _ _))); intro v103 w15 ho16 hb hg_ hnew_; clear hg_ hnew_; (first | rw [← Ny102.out] at ho16 | (simp only [Int.reduceToNat] at ho16; rw [← Ny102.out] at ho16)); have n0_ := Aside0.mk (Kd.R_lower ho16 (below_size (by repeat (first | (with_reducible first | exact HB.out | apply below_alloc | apply pw_below_drewN | apply below_drew1 | refine below_set ?_ GE101.out) | exact HB.out)))); have n1_ := Aside0.mk (blk_below (g := gb101) (o := .cells #[.int .u8 a0_0, .int .u64 a0_1, .string a0_2, .slice A0_3 l0_3.length c0_3] 31 (0, 0)) (by (with_reducible repeat (first | refine blk_drewN ?_ _ | refine blk_drew ?_ | refine blk_alloc ?_ _)); exact BK101.out) hb); have n2_ := Aside0.mk (below_step (by repeat (first | (with_reducible first | exact HB.out | apply below_alloc | apply pw_below_drewN | apply below_drew1 | refine below_set ?_ GE101.out) | exact HB.out)) hb); clear BK101; clear HB; have HO104 := n0_; have BK101 := n1_; have HB := n2_; clear n0_ n1_ n2_; clear hb ho16; have hcv17 := own_string (P := Tryd.prog) Tryd.underlying55 Tryd.underlying5 Tryd.underlying9 (Kd.own_of_R HO104.out); have hcz18_0 : w15.cell? ⟨gb101, 0, none⟩ = some (.int .u8 a0_0) := (blk_cell BK101.out 0).trans rfl; have hcz18_1 : w15.cell? ⟨gb101, 1, none⟩ = some (.int .u64 a0_1) := (blk_cell BK101.out 1).trans rfl; have hcz18_2 : w15.cell? ⟨gb101, 2, none⟩ = some (.string a0_2) := (blk_cell BK101.out 2).trans rfl; have hcz18_3 : w15.cell? ⟨gb101, 3, none⟩ = some (.slice A0_3 l0_3.length c0_3) := (blk_cell BK101.out 3).trans rfl; have hfz18_0 := blk_frozen BK101.out 0; have hfz18_1 := blk_frozen BK101.out 1; have hfz18_2 := blk_frozen BK101.out 2; have hfz18_3 := blk_frozen BK101.out 3))
       go_loopg [4, 27] kj10 (fun kq v4 v27 w' => ∃ (x4_3 : ByteArray) (x27_3 : Int), v4 = .string x4_3 ∧ v27 = .int .i64 x27_3 ∧ Aside0 (spec_SigOf.l0 kq x3_10 x4_3 l0_3 (l0_3.length : Int) x27_3 = some r) ∧ Aside0 (kq ≤ kj10) ∧ Aside0 (w'.heap[gb101]? = some (.cells #[.int .u8 a0_0, .int .u64 a0_1, .string a0_2, (.slice A0_3 l0_3.length c0_3)] 31 (0, 0))) ∧ Aside0 (Below w.heap.size w w'))
       case atStart => exact ⟨(strOfNums y102), (0), (by first | rfl | (simp; done) | (simp [*]; done)), (by first | rfl | (simp; done) | (simp [*]; done)), H', ⟨Nat.le_refl _⟩, ⟨by (with_reducible repeat (first | refine blk_drewN ?_ _ | refine blk_drew ?_ | refine blk_alloc ?_ _)); exact BK101.out⟩, ⟨by repeat (first | (with_reducible first | exact HB.out | apply below_alloc | apply pw_below_drewN | apply below_drew1 | refine below_set ?_ GE101.out) | exact HB.out)⟩⟩
       case round =>
        clear H'
        try clear c1
        try clear hcv1
        try clear c2
        try clear c2b0
        try clear c2b1
        try clear p2
        try clear c3
        try clear c3b0
        try clear c3b1
        try clear c3b2
        try clear p6
        try clear c9
        try clear c9b0
        try clear c9b1
        try clear c10
        try clear c13
        try clear c13b0
        try clear c13b1
        try clear c17
        try clear hcv17
        try clear hcz12_0
        try clear hcz12_1
        try clear hcz12_2
        try clear hcz12_3
        try clear hcz14_0
        try clear hcz14_1
        try clear hcz14_2
        try clear hcz14_3
        try clear hcz18_0
        try clear hcz18_1
        try clear hcz18_2
        try clear hcz18_3
        try clear hcz5_0
        try clear hcz5_1
        try clear hcz5_2
        try clear hcz5_3
        try clear hcz8_0
        try clear hcz8_1
        try clear hcz8_2
        try clear hcz8_3
        try clear hfz12_0
        try clear hfz12_1
        try clear hfz12_2
        try clear hfz12_3
        try clear hfz14_0
        try clear hfz14_1
        try clear hfz14_2
        try clear hfz14_3
        try clear hfz18_0
        try clear hfz18_1
        try clear hfz18_2
        try clear hfz18_3
        try clear hfz5_0
        try clear hfz5_1
        try clear hfz5_2
        try clear hfz5_3
        try clear hfz8_0
        try clear hfz8_1
        try clear hfz8_2
        try clear hfz8_3
        try clear p2
        try clear p6
        obtain ⟨x4_3, x27_3, rfl, rfl, HA, HK3, BK101, HB⟩ := hrel
        cases gk with
        | zero => exact absurd HA.out (by simp [spec_SigOf.l0])
        | succ k3 =>
         have H := HA.out
         clear HA
         simp only [spec_SigOf.l0] at H
         by_cases c19 : x27_3 < (l0_3.length : Int)
         ·rw [if_pos c19] at H
          have c19b0 : decide (x27_3 < (l0_3.length : Int)) = true := decide_eq_true c19
          clear c19
          by_cases c20 : 0 ≤ x27_3
          ·rw [if_pos c20] at H
           have c20b0 : decide (0 ≤ x27_3) = true := decide_eq_true c20
           clear c20
           by_cases c21 : x27_3 < (l0_3.length : Int)
           ·rw [if_pos c21] at H
            have c21b0 : decide (x27_3 < (l0_3.length : Int)) = true := decide_eq_true c21
            clear c21
            replace H := Option.bind_eq_some_iff.mp H
            obtain ⟨t107, A220, H⟩ := H
            replace H : (if x4_3.size + t107.size ≤ 9223372036854775807 then (spec_SigOf.l0 k3 x3_10 (x4_3 ++ t107) l0_3 (l0_3.length : Int) (wrap64 (x27_3 + 1))) else (none)) = some r := H
            have A22 := Aside0.mk A220
            clear A220
            by_cases c23 : x4_3.size + t107.size ≤ 9223372036854775807
            ·rw [if_pos c23] at H
             have c23b0 := eq_true c23
             have c23b1 : decide (x4_3.size + t107.size ≤ 9223372036854775807) = true := decide_eq_true c23
             try have c23b2 : (9223372036854775807 < x4_3.size + t107.size) = False := eq_false (Nat.not_lt.2 c23)
             have H' := Aside0.mk H
             clear H
             have p105 : 0 ≤ (x27_3 : Int) := of_decide_eq_true (by first | (with_reducible assumption) | assumption)
             have q105 : x27_3 < (l0_3.length : Int) := of_decide_eq_true (by first | (with_reducible assumption) | assumption)
             obtain ⟨ad105, A105_3, c105_3, e105, hx105_0, hx105_1, hx105_2, hx105_3, hl105_3, hi105_3⟩ := at_T31 HR0_3.out x27_3 p105 q105
             cases e105
             replace hx105_0 := (HB.out.cell (World.block_lt_of_cell? w _ hx105_0)).trans hx105_0
             replace hx105_1 := (HB.out.cell (World.block_lt_of_cell? w _ hx105_1)).trans hx105_1
             replace hx105_2 := (HB.out.cell (World.block_lt_of_cell? w _ hx105_2)).trans hx105_2
             replace hx105_3 := (HB.out.cell (World.block_lt_of_cell? w _ hx105_3)).trans hx105_3
             have HR105_3 := Aside0.mk hi105_3
             have HC105_3 := Aside0.mk hl105_3
             clear hi105_3 hl105_3
             replace p105 := eq_true p105
             replace q105 := eq_true q105
             go_wp2_with (first | ((with_reducible refine gate_dst (N := 6) rfl ?_); refine box_event ?hg (N := 6) ?hd (cs := #[.int .u8 0, .int .u64 0, .string (⟨#[]⟩ : ByteArray), .slice none 0 0]) (t := 31) ?hr ?_; (case hd => rfl); (case hg => rfl); (case hr => first | (go_simp; done) | (go_simp; rfl)); intro gb106 hg w24 hbox hb; have n0_ := Aside0.mk (blk_below (g := gb101) (o := .cells #[.int .u8 a0_0, .int .u64 a0_1, .string a0_2, .slice (some ad105) l0_3.length c0_3] 31 (0, 0)) (by (with_reducible repeat (first | refine blk_drewN ?_ _ | refine blk_drew ?_ | refine blk_alloc ?_ _)); exact BK101.out) hb); have n1_ := Aside0.mk (below_step (by repeat (first | (with_reducible first | exact HB.out | apply below_alloc | apply pw_below_drewN | apply below_drew1 | refine below_set ?_ GE101.out) | exact HB.out)) hb); have n2_ := Aside0.mk (hbox); have n3_ := Aside0.mk ((by rw [hg]; exact (below_size (by repeat (first | (with_reducible first | exact HB.out | apply below_alloc | apply pw_below_drewN | apply below_drew1 | refine below_set ?_ GE101.out) | exact HB.out))) : w.heap.size ≤ gb106)); have n4_ := Aside0.mk ((by rw [hg]; exact (below_size (by repeat (first | (with_reducible first | exact HB.out | apply below_alloc | apply pw_below_drewN | apply below_drew1 | refine below_set ?_ GE101.out) | exact HB.out))) : w.heap.size ≤ gb106)); have n5_ := Aside0.mk ((by rw [hg]; exact Nat.ne_of_lt (blk_lt (g := gb101) (o := .cells #[.int .u8 a0_0, .int .u64 a0_1, .string a0_2, .slice (some ad105) l0_3.length c0_3] 31 (0, 0)) (by (with_reducible repeat (first | refine blk_drewN ?_ _ | refine blk_drew ?_ | refine blk_alloc ?_ _)); exact BK101.out)) : gb101 ≠ gb106)); have n6_ := Aside0.mk ((by rw [hg]; exact Nat.ne_of_gt (blk_lt (g := gb101) (o := .cells #[.int .u8 a0_0, .int .u64 a0_1, .string a0_2, .slice (some ad105) l0_3.length c0_3] 31 (0, 0)) (by (with_reducible repeat (first | refine blk_drewN ?_ _ | refine blk_drew ?_ | refine blk_alloc ?_ _)); exact BK101.out)) : gb106 ≠ gb101)); clear BK101; clear HB; have BK101 := n0_; have HB := n1_; have BK106 := n2_; have GW106 := n3_; have GE106 := n4_; have NB101_106 := n5_; have NB106_101 := n6_; clear n0_ n1_ n2_ n3_ n4_ n5_ n6_; clear hb hbox hg; have hnb25 := NB106_101.out; have hnc25 := NB101_106.out; have hcz26_0 : w24.cell? ⟨gb106, 0, none⟩ = some (.int .u8 0) := (blk_cell BK106.out 0).trans rfl; have hcz26_1 : w24.cell? ⟨gb106, 1, none⟩ = some (.int .u64 0) := (blk_cell BK106.out 1).trans rfl; have hcz26_2 : w24.cell? ⟨gb106, 2, none⟩ = some (.string (⟨#[]⟩ : ByteArray)) := (blk_cell BK106.out 2).trans rfl; have hcz26_3 : w24.cell? ⟨gb106, 3, none⟩ = some (.slice none 0 0) := (blk_cell BK106.out 3).trans rfl; have hfz26_0 := blk_frozen BK106.out 0; have hfz26_1 := blk_frozen BK106.out 1; have hfz26_2 := blk_frozen BK106.out 2; have hfz26_3 := blk_frozen BK106.out 3) | ((with_reducible refine gate_callee (f := 17) rfl ?_); refine goesL_ (some 33) rfl rfl Tryd.func17 (by kernel_rfl) rfl #[.agg #[.int .u8 ((rd_T31 l0_3 x27_3).f0), .int .u64 ((rd_T31 l0_3 x27_3).f1), .string ((rd_T31 l0_3 x27_3).f2), .slice A105_3 ((rd_T31 l0_3 x27_3).f3).length c105_3]] rfl (by (try simp only [List.map_toArray, List.map_cons, List.map_nil]); first | done | rfl | (simp only [List.length_drop, List.length_take]; rfl)) ?_; (with_reducible refine (ih k3 (by have := HJ5.out; have := HJ10.out; have := HK3.out; omega) ((rd_T31 l0_3 x27_3).f0) ((rd_T31 l0_3 x27_3).f1) ((rd_T31 l0_3 x27_3).f2) _ _ ((rd_T31 l0_3 x27_3).f3) t107 _ ?side1 ?side2 A22.out).mono ?_); (case side1 => exact Kd.C_below HR105_3.out (by repeat (first | (with_reducible first | exact HB.out | apply below_alloc | apply pw_below_drewN | apply below_drew1 | refine below_set ?_ GE101.out | refine below_set ?_ GE106.out) | exact HB.out))); (case side2 => exact HC105_3.out); rintro e w27 ⟨rfl, hb⟩; refine ⟨_, rfl, ?_⟩; have n0_ := Aside0.mk (blk_below (g := gb101) (o := .cells #[.int .u8 a0_0, .int .u64 a0_1, .string a0_2, .slice (some ad105) l0_3.length c0_3] 31 (0, 0)) (by (with_reducible repeat (first | refine blk_drewN ?_ _ | refine blk_drew ?_ | refine blk_alloc ?_ _)); refine blk_far ?_ NB101_106.out _; (with_reducible repeat (first | refine blk_drewN ?_ _ | refine blk_drew ?_ | refine blk_alloc ?_ _)); refine blk_far ?_ NB101_106.out _; (with_reducible repeat (first | refine blk_drewN ?_ _ | refine blk_drew ?_ | refine blk_alloc ?_ _)); refine blk_far ?_ NB101_106.out _; (with_reducible repeat (first | refine blk_drewN ?_ _ | refine blk_drew ?_ | refine blk_alloc ?_ _)); refine blk_far ?_ NB101_106.out _; (with_reducible repeat (first | refine blk_drewN ?_ _ | refine blk_drew ?_ | refine blk_alloc ?_ _)); exact BK101.out) hb); have n1_ := Aside0.mk (blk_below (g := gb106) (o := .cells #[.int .u8 ((rd_T31 l0_3 x27_3).f0), .int .u64 ((rd_T31 l0_3 x27_3).f1), .string ((rd_T31 l0_3 x27_3).f2), .slice A105_3 ((rd_T31 l0_3 x27_3).f3).length c105_3] 31 (0, 0)) (by (with_reducible repeat (first | refine blk_drewN ?_ _ | refine blk_drew ?_ | refine blk_alloc ?_ _)); refine blk_put (cs := #[.int .u8 ((rd_T31 l0_3 x27_3).f0), .int .u64 ((rd_T31 l0_3 x27_3).f1), .string ((rd_T31 l0_3 x27_3).f2), .slice none 0 0]) ?_ 3 _ rfl; (with_reducible repeat (first | refine blk_drewN ?_ _ | refine blk_drew ?_ | refine blk_alloc ?_ _)); refine blk_put (cs := #[.int .u8 ((rd_T31 l0_3 x27_3).f0), .int .u64 ((rd_T31 l0_3 x27_3).f1), .string (⟨#[]⟩ : ByteArray), .slice none 0 0]) ?_ 2 _ rfl; (with_reducible repeat (first | refine blk_drewN ?_ _ | refine blk_drew ?_ | refine blk_alloc ?_ _)); refine blk_put (cs := #[.int .u8 ((rd_T31 l0_3 x27_3).f0), .int .u64 0, .string (⟨#[]⟩ : ByteArray), .slice none 0 0]) ?_ 1 _ rfl; (with_reducible repeat (first | refine blk_drewN ?_ _ | refine blk_drew ?_ | refine blk_alloc ?_ _)); refine blk_put (cs := #[.int .u8 0, .int .u64 0, .string (⟨#[]⟩ : ByteArray), .slice none 0 0]) ?_ 0 _ rfl; (with_reducible repeat (first | refine blk_drewN ?_ _ | refine blk_drew ?_ | refine blk_alloc ?_ _)); exact BK106.out) hb); have n2_ := Aside0.mk (below_step (by repeat (first | (with_reducible first | exact HB.out | apply below_alloc | apply pw_below_drewN | apply below_drew1 | refine below_set ?_ GE101.out | refine below_set ?_ GE106.out) | exact HB.out)) hb); clear BK101; clear BK106; clear HB; have BK101 := n0_; have BK106 := n1_; have HB := n2_; clear n0_ n1_ n2_; (try clear hb); (try clear hb2); (try clear hk); (try clear hi)))
             go_roundg k3
             case measure => have := HJ5.out; have := HJ10.out; have := HK3.out; omega
             case rel => exact ⟨(x4_3 ++ t107), (wrap64 (x27_3 + 1)), (by first | rfl | (simp; done) | (simp [*]; done)), (by first | rfl | (simp; done) | (simp [*]; done)), H', ⟨by have := HJ5.out; have := HJ10.out; have := HK3.out; omega⟩, ⟨by (with_reducible repeat (first | refine blk_drewN ?_ _ | refine blk_drew ?_ | refine blk_alloc ?_ _)); exact BK101.out⟩, ⟨by repeat (first | (with_reducible first | exact HB.out | apply below_alloc | apply pw_below_drewN | apply below_drew1 | refine below_set ?_ GE101.out | refine below_set ?_ GE106.out) | exact HB.out)⟩⟩
            ·rw [if_neg c23] at H
             exact absurd H (by simp)
           ·rw [if_neg c21] at H
            exact absurd H (by simp)
          ·rw [if_neg c20] at H
           exact absurd H (by simp)
         ·rw [if_neg c19] at H
          have c19b0 : decide (x27_3 < (l0_3.length : Int)) = false := decide_eq_false c19
          clear c19
          by_cases c28 : x4_3.size + x3_10.size ≤ 9223372036854775807
          ·rw [if_pos c28] at H
           have c28b0 := eq_true c28
           have c28b1 : decide (x4_3.size + x3_10.size ≤ 9223372036854775807) = true := decide_eq_true c28
           try have c28b2 : (9223372036854775807 < x4_3.size + x3_10.size) = False := eq_false (Nat.not_lt.2 c28)
           obtain rfl := Option.some.inj H
           go_wp2
           go_ret
           exact ⟨by first | rfl | (simp [errW_none, errW_some] <;> rfl) | (simp [*, errW_none, errW_some] <;> rfl) | (simp (disch := omega) only [wrap64_id] <;> rfl), by repeat (first | (with_reducible first | exact HB.out | apply below_alloc | apply pw_below_drewN | apply below_drew1 | refine below_set ?_ GE101.out) | exact HB.out)⟩
          ·rw [if_neg c28] at H
           exact absurd H (by simp)
    ·replace c10 := Bool.eq_false_iff.mpr c10
     subst c10
     have H1 : (some (strOfNums (([a0_0] : List Int)))) = some r := by rw [if_neg (show ¬ (false = true) by decide)] at H; exact H
     clear H
     have H := H1
     clear H1
     obtain ⟨y108, hy108⟩ : ∃ y_ : List Int, y_ = (([a0_0] : List Int)) := ⟨_, rfl⟩
     replace H : (some (strOfNums y108)) = some r := by first | (rw [hy108]; with_reducible exact H) | (have H2_ := (Option.bind_some _ _).symm.trans H; rw [hy108]; with_reducible exact H2_) | (have H2_ := (Option.bind_some _ _).symm.trans H; with_reducible exact H2_) | with_reducible exact H | (rw [hy108]; exact H) | exact H
     have Ny108 := Aside0.mk hy108
     clear hy108
     obtain rfl := Option.some.inj H
     have hcz29_0 : wc.cell? ⟨gb101, 0, none⟩ = some (.int .u8 a0_0) := (blk_cell BK101.out 0).trans rfl
     have hcz29_1 : wc.cell? ⟨gb101, 1, none⟩ = some (.int .u64 a0_1) := (blk_cell BK101.out 1).trans rfl
     have hcz29_2 : wc.cell? ⟨gb101, 2, none⟩ = some (.string a0_2) := (blk_cell BK101.out 2).trans rfl
     have hcz29_3 : wc.cell? ⟨gb101, 3, none⟩ = some (.slice A0_3 l0_3.length c0_3) := (blk_cell BK101.out 3).trans rfl
     have hfz29_0 := blk_frozen BK101.out 0
     have hfz29_1 := blk_frozen BK101.out 1
     have hfz29_2 := blk_frozen BK101.out 2
     have hfz29_3 := blk_frozen BK101.out 3
     go_wp2_with (first | ((with_reducible refine gate_dst (N := 41) rfl ?_); refine Kd.R_lit (Kd.int .u8) _ 5 ?hg (N := 41) ?hd (xs := ([a0_0] : List Int)) (inner := [.int .u8 a0_0]) (ok := fun _ => True) (okp := fun _ => True) ?hr ?hp (fun _ hk => hk) trivial (Below.refl _ _) (Nat.le_refl _) (by simp) ?_; (case hd => rfl); (case hg => rfl); (case hr => first | (go_simp; done) | (go_simp; rfl)); (case hp => exact (Reps.one (show Kd.M (Kd.int .u8) _ _ _ a0_0 [.int .u8 a0_0] from rfl) (Reps.none _ _))); intro v109 w30 ho31 hb hg_ hnew_; clear hg_ hnew_; (first | rw [← Ny108.out] at ho31 | (simp only [Int.reduceToNat] at ho31; rw [← Ny108.out] at ho31)); have n0_ := Aside0.mk (Kd.R_lower ho31 (below_size (by repeat (first | (with_reducible first | exact HB.out | apply below_alloc | apply pw_below_drewN | apply below_drew1 | refine below_set ?_ GE101.out) | exact HB.out)))); have n1_ := Aside0.mk (blk_below (g := gb101) (o := .cells #[.int .u8 a0_0, .int .u64 a0_1, .string a0_2, .slice A0_3 l0_3.length c0_3] 31 (0, 0)) (by (with_reducible repeat (first | refine blk_drewN ?_ _ | refine blk_drew ?_ | refine blk_alloc ?_ _)); exact BK101.out) hb); have n2_ := Aside0.mk (below_step (by repeat (first | (with_reducible first | exact HB.out | apply below_alloc | apply pw_below_drewN | apply below_drew1 | refine below_set ?_ GE101.out) | exact HB.out)) hb); clear BK101; clear HB; have HO110 := n0_; have BK101 := n1_; have HB := n2_; clear n0_ n1_ n2_; clear hb ho31; have hcv32 := own_string (P := Tryd.prog) Tryd.underlying55 Tryd.underlying5 Tryd.underlying9 (Kd.own_of_R HO110.out)))
     go_ret
     exact ⟨by first | rfl | (simp [errW_none, errW_some] <;> rfl) | (simp [*, errW_none, errW_some] <;> rfl) | (simp (disch := omega) only [wrap64_id] <;> rfl), by repeat (first | (with_reducible first | exact HB.out | apply below_alloc | apply pw_below_drewN | apply below_drew1 | refine below_set ?_ GE101.out) | exact HB.out)⟩

/-! ### spec_Basic: function 34 -/
def spec_Basic.f (a0 : Int) : Option (Bool) := if a0 = 121 then (some true) else (if a0 = 98 then (some true) else (if a0 = 110 then (some true) else (if a0 = 113 then (some true) else (if a0 = 105 then (some true) else (if a0 = 117 then (some true) else (if a0 = 120 then (some true) else (if a0 = 116 then (some true) else (if a0 = 100 then (some true) else (if a0 = 115 then (some true) else (if a0 = 111 then (some true) else (if a0 = 103 then (some true) else (if a0 = 104 then (some true) else (some false)))))))))))))
set_option maxHeartbeats 8000000 in
set_option maxRecDepth 100000 in
theorem spec_Basic.calls (a0 : Int) (r : Bool) (w : World) (h : spec_Basic.f a0 = some r) :
  Calls Tryd.prog 34 #[.int .u8 a0] w fun e w' => e = .returned (.bool r) ∧ Drawn0 w w' := by
 have H : (if a0 = 121 then (some true) else (if a0 = 98 then (some true) else (if a0 = 110 then (some true) else (if a0 = 113 then (some true) else (if a0 = 105 then (some true) else (if a0 = 117 then (some true) else (if a0 = 120 then (some true) else (if a0 = 116 then (some true) else (if a0 = 100 then (some true) else (if a0 = 115 then (some true) else (if a0 = 111 then (some true) else (if a0 = 103 then (some true) else (if a0 = 104 then (some true) else (some false)))))))))))))) = some r := h
 clear h
 by_cases c2 : a0 = 121
 ·rw [if_pos c2] at H
  have c2b0 : (a0 == 121) = true := beq_iff_eq.mpr c2
  have c2b1 : (a0 != 121) = false := bne_eq_false_iff_eq.mpr c2
  clear c2
  obtain rfl := Option.some.inj H
  go_enter Tryd.func34, Tryd.ntmps34
  go_wp2
  go_ret
  exact ⟨by first | rfl | (simp; done) | (simp [*]; done), by repeat (first | exact Drawn0.refl _ | apply Drawn0.step)⟩
 ·rw [if_neg c2] at H
  have c2b0 : (a0 == 121) = false := beq_eq_false_iff_ne.mpr c2
  have c2b1 : (a0 != 121) = true := bne_iff_ne.mpr c2
  by_cases c3 : a0 = 98
  ·rw [if_pos c3] at H
   have c3b0 : (a0 == 98) = true := beq_iff_eq.mpr c3
   have c3b1 : (a0 != 98) = false := bne_eq_false_iff_eq.mpr c3
   clear c3
   obtain rfl := Option.some.inj H
   go_enter Tryd.func34, Tryd.ntmps34
   go_wp2
   go_ret
   exact ⟨by first | rfl | (simp; done) | (simp [*]; done), by repeat (first | exact Drawn0.refl _ | apply Drawn0.step)⟩
  ·rw [if_neg c3] at H
   have c3b0 : (a0 == 98) = false := beq_eq_false_iff_ne.mpr c3
   have c3b1 : (a0 != 98) = true := bne_iff_ne.mpr c3
   by_cases c4 : a0 = 110
   ·rw [if_pos c4] at H
    have c4b0 : (a0 == 110) = true := beq_iff_eq.mpr c4
    have c4b1 : (a0 != 110) = false := bne_eq_false_iff_eq.mpr c4
    clear c4
    obtain rfl := Option.some.inj H
    go_enter Tryd.func34, Tryd.ntmps34
    go_wp2
    go_ret
    exact ⟨by first | rfl | (simp; done) | (simp [*]; done), by repeat (first | exact Drawn0.refl _ | apply Drawn0.step)⟩
   ·rw [if_neg c4] at H
    have c4b0 : (a0 == 110) = false := beq_eq_false_iff_ne.mpr c4
    have c4b1 : (a0 != 110) = true := bne_iff_ne.mpr c4
    by_cases c5 : a0 = 113
    ·rw [if_pos c5] at H
     have c5b0 : (a0 == 113) = true := beq_iff_eq.mpr c5
     have c5b1 : (a0 != 113) = false := bne_eq_false_iff_eq.mpr c5
     clear c5
     obtain rfl := Option.some.inj H
     go_enter Tryd.func34, Tryd.ntmps34
     go_wp2
     go_ret
     exact ⟨by first | rfl | (simp; done) | (simp [*]; done), by repeat (first | exact Drawn0.refl _ | apply Drawn0.step)⟩
    ·rw [if_neg c5] at H
     have c5b0 : (a0 == 113) = false := beq_eq_false_iff_ne.mpr c5
     have c5b1 : (a0 != 113) = true := bne_iff_ne.mpr c5
     by_cases c6 : a0 = 105
     ·rw [if_pos c6] at H
      have c6b0 : (a0 == 105) = true := beq_iff_eq.mpr c6
      have c6b1 : (a0 != 105) = false := bne_eq_false_iff_eq.mpr c6
      clear c6
      obtain rfl := Option.some.inj H
      go_enter Tryd.func34, Tryd.ntmps34
      go_wp2
      go_ret
      exact ⟨by first | rfl | (simp; done) | (simp [*]; done), by repeat (first | exact Drawn0.refl _ | apply Drawn0.step)⟩
     ·rw [if_neg c6] at H
      have c6b0 : (a0 == 105) = false := beq_eq_false_iff_ne.mpr c6
      have c6b1 : (a0 != 105) = true := bne_iff_ne.mpr c6
      by_cases c7 : a0 = 117
      ·rw [if_pos c7] at H
       have c7b0 : (a0 == 117) = true := beq_iff_eq.mpr c7
       have c7b1 : (a0 != 117) = false := bne_eq_false_iff_eq.mpr c7
       clear c7
       obtain rfl := Option.some.inj H
       go_enter Tryd.func34, Tryd.ntmps34
       go_wp2
       go_ret
       exact ⟨by first | rfl | (simp; done) | (simp [*]; done), by repeat (first | exact Drawn0.refl _ | apply Drawn0.step)⟩
      ·rw [if_neg c7] at H
       have c7b0 : (a0 == 117) = false := beq_eq_false_iff_ne.mpr c7
       have c7b1 : (a0 != 117) = true := bne_iff_ne.mpr c7
       by_cases c8 : a0 = 120
       ·rw [if_pos c8] at H
        have c8b0 : (a0 == 120) = true := beq_iff_eq.mpr c8
        have c8b1 : (a0 != 120) = false := bne_eq_false_iff_eq.mpr c8
        clear c8
        obtain rfl := Option.some.inj H
        go_enter Tryd.func34, Tryd.ntmps34
        go_wp2
        go_ret
        exact ⟨by first | rfl | (simp; done) | (simp [*]; done), by repeat (first | exact Drawn0.refl _ | apply Drawn0.step)⟩
       ·rw [if_neg c8] at H
        have c8b0 : (a0 == 120) = false := beq_eq_false_iff_ne.mpr c8
        have c8b1 : (a0 != 120) = true := bne_iff_ne.mpr c8
        by_cases c9 : a0 = 116
        ·rw [if_pos c9] at H
         have c9b0 : (a0 == 116) = true := beq_iff_eq.mpr c9
         have c9b1 : (a0 != 116) = false := bne_eq_false_iff_eq.mpr c9
         clear c9
         obtain rfl := Option.some.inj H
         go_enter Tryd.func34, Tryd.ntmps34
         go_wp2
         go_ret
         exact ⟨by first | rfl | (simp; done) | (simp [*]; done), by repeat (first | exact Drawn0.refl _ | apply Drawn0.step)⟩
        ·rw [if_neg c9] at H
         have c9b0 : (a0 == 116) = false := beq_eq_false_iff_ne.mpr c9
         have c9b1 : (a0 != 116) = true := bne_iff_ne.mpr c9
         by_cases c10 : a0 = 100
         ·rw [if_pos c10] at H
          have c10b0 : (a0 == 100) = true := beq_iff_eq.mpr c10
          have c10b1 : (a0 != 100) = false := bne_eq_false_iff_eq.mpr c10
          clear c10
          obtain rfl := Option.some.inj H
          go_enter Tryd.func34, Tryd.ntmps34
          go_wp2
          go_ret
          exact ⟨by first | rfl | (simp; done) | (simp [*]; done), by repeat (first | exact Drawn0.refl _ | apply Drawn0.step)⟩
         ·rw [if_neg c10] at H
          have c10b0 : (a0 == 100) = false := beq_eq_false_iff_ne.mpr c10
          have c10b1 : (a0 != 100) = true := bne_iff_ne.mpr c10
          by_cases c11 : a0 = 115
          ·rw [if_pos c11] at H
           have c11b0 : (a0 == 115) = true := beq_iff_eq.mpr c11
           have c11b1 : (a0 != 115) = false := bne_eq_false_iff_eq.mpr c11
           clear c11
           obtain rfl := Option.some.inj H
           go_enter Tryd.func34, Tryd.ntmps34
           go_wp2
           go_ret
           exact ⟨by first | rfl | (simp; done) | (simp [*]; done), by repeat (first | exact Drawn0.refl _ | apply Drawn0.step)⟩
          ·rw [if_neg c11] at H
           have c11b0 : (a0 == 115) = false := beq_eq_false_iff_ne.mpr c11
           have c11b1 : (a0 != 115) = true := bne_iff_ne.mpr c11
           by_cases c12 : a0 = 111
           ·rw [if_pos c12] at H
            have c12b0 : (a0 == 111) = true := beq_iff_eq.mpr c12
            have c12b1 : (a0 != 111) = false := bne_eq_false_iff_eq.mpr c12
            clear c12
            obtain rfl := Option.some.inj H
            go_enter Tryd.func34, Tryd.ntmps34
            go_wp2
            go_ret
            exact ⟨by first | rfl | (simp; done) | (simp [*]; done), by repeat (first | exact Drawn0.refl _ | apply Drawn0.step)⟩
           ·rw [if_neg c12] at H
            have c12b0 : (a0 == 111) = false := beq_eq_false_iff_ne.mpr c12
            have c12b1 : (a0 != 111) = true := bne_iff_ne.mpr c12
            by_cases c13 : a0 = 103
            ·rw [if_pos c13] at H
             have c13b0 : (a0 == 103) = true := beq_iff_eq.mpr c13
             have c13b1 : (a0 != 103) = false := bne_eq_false_iff_eq.mpr c13
             clear c13
             obtain rfl := Option.some.inj H
             go_enter Tryd.func34, Tryd.ntmps34
             go_wp2
             go_ret
             exact ⟨by first | rfl | (simp; done) | (simp [*]; done), by repeat (first | exact Drawn0.refl _ | apply Drawn0.step)⟩
            ·rw [if_neg c13] at H
             have c13b0 : (a0 == 103) = false := beq_eq_false_iff_ne.mpr c13
             have c13b1 : (a0 != 103) = true := bne_iff_ne.mpr c13
             by_cases c14 : a0 = 104
             ·rw [if_pos c14] at H
              have c14b0 : (a0 == 104) = true := beq_iff_eq.mpr c14
              have c14b1 : (a0 != 104) = false := bne_eq_false_iff_eq.mpr c14
              clear c14
              obtain rfl := Option.some.inj H
              go_enter Tryd.func34, Tryd.ntmps34
              go_wp2
              go_ret
              exact ⟨by first | rfl | (simp; done) | (simp [*]; done), by repeat (first | exact Drawn0.refl _ | apply Drawn0.step)⟩
             ·rw [if_neg c14] at H
              have c14b0 : (a0 == 104) = false := beq_eq_false_iff_ne.mpr c14
              have c14b1 : (a0 != 104) = true := bne_iff_ne.mpr c14
              obtain rfl := Option.some.inj H
              go_enter Tryd.func34, Tryd.ntmps34
              go_wp2
              go_ret
              exact ⟨by first | rfl | (simp; done) | (simp [*]; done), by repeat (first | exact Drawn0.refl _ | apply Drawn0.step)⟩

end Go.Proofs.YtboioihppjhjcaaDoor.MFnSgOf

namespace Go.Proofs.YtboioihppjhjcaaDoor.MFnSgOf
open Go.RowKit Go.Proofs.YtboioihppjhjcaaDoorW.PrintWords Go.Proofs.YtboioihppjhjcaaDoorW.PrintLast Go.Proofs.YtboioihppjhjcaaDoorW.PrintMore
attribute [local go_sem] max2_int min2_int max_two min_two max_three min_three max_four min_four   -- for this text's walks alone
set_option linter.unusedVariables false
set_option linter.unusedSimpArgs false

/-! ### spec_Complete: function 63 -/
mutual
def spec_Complete.j0 : Nat → ByteArray → Int → Int → Int → Bool → Option (Int)
 | 0, _, _, _, _, _ => none
 | k + 1, x0, x1, x2, x3, x26 => if x26 = true then (some 0) else (if 0 < (x0.size : Int) then ((spec_Basic.f (bt x0 0)).bind fun t111 => (if t111 = true then (spec_Complete.j1 k x0 x1 x2 x3 true) else (spec_Complete.j1 k x0 x1 x2 x3 ((bt x0 0) == 118)))) else (none))
def spec_Complete.j1 : Nat → ByteArray → Int → Int → Int → Bool → Option (Int)
 | 0, _, _, _, _, _ => none
 | k + 1, x0, x1, x2, x3, x27 => if x27 = true then (some 1) else (if 0 < (x0.size : Int) then (if (bt x0 0) = 97 then (if (x0.size : Int) > 1 then (if 1 < (x0.size : Int) then (spec_Complete.j2 k x0 x1 x2 x3 ((bt x0 1) == 123)) else (none)) else (spec_Complete.j2 k x0 x1 x2 x3 false)) else (spec_Complete.j2 k x0 x1 x2 x3 false)) else (none))
def spec_Complete.j2 : Nat → ByteArray → Int → Int → Int → Bool → Option (Int)
 | 0, _, _, _, _, _ => none
 | k + 1, x0, x1, x2, x3, x36 => if x36 = true then (if (x0.size : Int) < 4 then (spec_Complete.j3 k x0 x1 x2 x3 true) else (if 2 < (x0.size : Int) then ((spec_Basic.f (bt x0 2)).bind fun t112 => (spec_Complete.j3 k x0 x1 x2 x3 (!t112))) else (none))) else (if 0 < (x0.size : Int) then (if (bt x0 0) = 97 then (if 1 ≤ (x0.size : Int) then ((spec_Complete.f k (x0.extract 1 x0.size) (wrap64 (x1 - 1)) x2 x3).bind fun t114 => (if t114 > 0 then (some (wrap64 (t114 + 1))) else (some 0))) else (none)) else (if (bt x0 0) = 40 then (spec_Complete.l0 k x0 x1 x2 x3 1) else (some 0))) else (none))
def spec_Complete.j3 : Nat → ByteArray → Int → Int → Int → Bool → Option (Int)
 | 0, _, _, _, _, _ => none
 | k + 1, x0, x1, x2, x3, x58 => if x58 = true then (some 0) else (if 3 ≤ (x0.size : Int) then ((spec_Complete.f k (x0.extract 3 x0.size) (wrap64 (x1 - 1)) x2 (wrap64 (x3 - 1))).bind fun t113 => (if t113 = 0 then (some 0) else (if (x0.size : Int) < (wrap64 (t113 + 4)) then (some 0) else (if 0 ≤ (wrap64 (t113 + 3)) then (if (wrap64 (t113 + 3)) < (x0.size : Int) then (if (bt x0 (wrap64 (t113 + 3))) = 125 then (some (wrap64 (t113 + 4))) else (some 0)) else (none)) else (none))))) else (none))
def spec_Complete.l0 : Nat → ByteArray → Int → Int → Int → Int → Option (Int)
 | 0, _, _, _, _, _ => none
 | k + 1, x0, x1, x2, x3, x11 => if x11 < (x0.size : Int) then (if 0 ≤ x11 then (spec_Complete.j5 k x0 x1 x2 x3 x11 ((bt x0 x11) != 41)) else (none)) else (spec_Complete.j5 k x0 x1 x2 x3 x11 false)
def spec_Complete.j5 : Nat → ByteArray → Int → Int → Int → Int → Bool → Option (Int)
 | 0, _, _, _, _, _, _ => none
 | k + 1, x0, x1, x2, x3, x11, x113 => if x113 = true then (if 0 ≤ x11 then (if x11 ≤ (x0.size : Int) then ((spec_Complete.f k (x0.extract (x11 : Int).toNat x0.size) x1 (wrap64 (x2 - 1)) x3).bind fun t115 => (if t115 = 0 then (some 0) else (spec_Complete.l0 k x0 x1 x2 x3 (wrap64 (x11 + t115))))) else (none)) else (none)) else (if x11 > 1 then (if x11 < (x0.size : Int) then (some (wrap64 (x11 + 1))) else (some 0)) else (some 0))
def spec_Complete.f : Nat → ByteArray → Int → Int → Int → Option (Int)
 | 0, _, _, _, _ => none
 | k + 1, a0, a1, a2, a3 => if a0.toList = ([] : List UInt8) then (spec_Complete.j0 k a0 a1 a2 a3 true) else (if a1 < 0 then (spec_Complete.j0 k a0 a1 a2 a3 true) else (if a2 < 0 then (spec_Complete.j0 k a0 a1 a2 a3 true) else (spec_Complete.j0 k a0 a1 a2 a3 (decide (a3 < 0)))))
end
set_option maxHeartbeats 8000000 in
set_option maxRecDepth 100000 in
theorem spec_Complete.calls (k : Nat) : ∀ (a0 : ByteArray) (a1 : Int) (a2 : Int) (a3 : Int) (r : Int) (w : World) (h : spec_Complete.f k a0 a1 a2 a3 = some r),
  Calls Tryd.prog 63 #[.string a0, .int .i64 a1, .int .i64 a2, .int .i64 a3] w fun e w' => e = .returned (.int .i64 r) ∧ Drawn0 w w' := by
 induction k using Nat.strongRecOn with
 | _ k ih =>
 intro a0 a1 a2 a3 r w h
 cases k with
 | zero => exact absurd h (by simp [spec_Complete.f])
 | succ k =>
 simp only [spec_Complete.f] at h
 have H : (if a0.toList = ([] : List UInt8) then (spec_Complete.j0 k a0 a1 a2 a3 true) else (if a1 < 0 then (spec_Complete.j0 k a0 a1 a2 a3 true) else (if a2 < 0 then (spec_Complete.j0 k a0 a1 a2 a3 true) else (spec_Complete.j0 k a0 a1 a2 a3 (decide (a3 < 0)))))) = some r := h
 clear h
 have HC5 := Aside0.mk H
 clear H
 go_enter Tryd.func63, Tryd.ntmps63
 go_upto_region 1 with (fail)
 go_cut [26] (fun v26 wc => ∃ (kq : Nat) (x26_4 : Bool), v26 = .bool x26_4 ∧ Aside0 (spec_Complete.j0 kq a0 a1 a2 a3 x26_4 = some r) ∧ Aside0 (kq ≤ k) ∧ Drawn0 w wc)
 case first =>
  have H := HC5.out
  clear HC5
  by_cases c6 : a0.toList = ([] : List UInt8)
  ·rw [if_pos c6] at H
   have c6b0 : (a0.toList == ([] : List UInt8)) = true := beq_iff_eq.mpr c6
   have c6b1 : (a0.toList != ([] : List UInt8)) = false := bne_eq_false_iff_eq.mpr c6
   clear c6
   (first | rw [c6b0] | (simp only [i64_w, i32_w]; rw [c6b0]) | skip)
   have H' := Aside0.mk H
   clear H
   go_wp2
   go_meet
   case rel => exact ⟨_, (true), (by first | rfl | (simp; done) | (simp [*]; done)), H', ⟨by first | omega | exact Nat.le_refl _⟩, by repeat (first | exact Drawn0.refl _ | apply Drawn0.step)⟩
  ·rw [if_neg c6] at H
   have c6b0 : (a0.toList == ([] : List UInt8)) = false := beq_eq_false_iff_ne.mpr c6
   have c6b1 : (a0.toList != ([] : List UInt8)) = true := bne_iff_ne.mpr c6
   (first | rw [c6b0] | (simp only [i64_w, i32_w]; rw [c6b0]) | skip)
   by_cases c7 : a1 < 0
   ·rw [if_pos c7] at H
    have c7b0 : decide (a1 < 0) = true := decide_eq_true c7
    clear c7
    have H' := Aside0.mk H
    clear H
    go_wp2
    go_meet
    case rel => exact ⟨_, (true), (by first | rfl | (simp; done) | (simp [*]; done)), H', ⟨by first | omega | exact Nat.le_refl _⟩, by repeat (first | exact Drawn0.refl _ | apply Drawn0.step)⟩
   ·rw [if_neg c7] at H
    have c7b0 : decide (a1 < 0) = false := decide_eq_false c7
    clear c7
    by_cases c8 : a2 < 0
    ·rw [if_pos c8] at H
     have c8b0 : decide (a2 < 0) = true := decide_eq_true c8
     clear c8
     have H' := Aside0.mk H
     clear H
     go_wp2
     go_meet
     case rel => exact ⟨_, (true), (by first | rfl | (simp; done) | (simp [*]; done)), H', ⟨by first | omega | exact Nat.le_refl _⟩, by repeat (first | exact Drawn0.refl _ | apply Drawn0.step)⟩
    ·rw [if_neg c8] at H
     have c8b0 : decide (a2 < 0) = false := decide_eq_false c8
     clear c8
     have H' := Aside0.mk H
     clear H
     go_wp2
     go_meet
     case rel => exact ⟨_, (decide (a3 < 0)), (by first | rfl | (simp; done) | (simp [*]; done)), H', ⟨by first | omega | exact Nat.le_refl _⟩, by repeat (first | exact Drawn0.refl _ | apply Drawn0.step)⟩
 case rest =>
  clear HC5
  try clear p2
  try clear c6
  try clear c6b0
  try clear c6b1
  try clear c7
  try clear c7b0
  try clear c8
  try clear c8b0
  obtain ⟨kq, x26_4, rfl, HA, HJ4, ⟨mc4, rfl⟩⟩ := hcut
  cases kq with
  | zero => exact absurd HA.out (by simp [spec_Complete.j0])
  | succ kj4 =>
   have H := HA.out
   clear HA
   simp only [spec_Complete.j0] at H
   by_cases c9 : x26_4 = true
   ·subst c9
    have H1 : (some 0) = some r := by rw [if_pos rfl] at H; exact H
    clear H
    have H := H1
    clear H1
    obtain rfl := Option.some.inj H
    go_wp2
    go_ret
    exact ⟨by first | rfl | (simp; done) | (simp [*]; done), by repeat (first | exact Drawn0.refl _ | apply Drawn0.step)⟩
   ·replace c9 := Bool.eq_false_iff.mpr c9
    subst c9
    have H1 : (if 0 < (a0.size : Int) then ((spec_Basic.f (bt a0 0)).bind fun t111 => (if t111 = true then (spec_Complete.j1 kj4 a0 a1 a2 a3 true) else (spec_Complete.j1 kj4 a0 a1 a2 a3 ((bt a0 0) == 118)))) else (none)) = some r := by rw [if_neg (show ¬ (false = true) by decide)] at H; exact H
    clear H
    have H := H1
    clear H1
    have HC10 := Aside0.mk H
    clear H
    go_upto_region 3 with (fail)
    go_cut [27] (fun v27 wc => ∃ (kq : Nat) (x27_9 : Bool), v27 = .bool x27_9 ∧ Aside0 (spec_Complete.j1 kq a0 a1 a2 a3 x27_9 = some r) ∧ Aside0 (kq ≤ kj4) ∧ Drawn0 w wc)
    case first =>
     have H := HC10.out
     clear HC10
     by_cases c11 : 0 < (a0.size : Int)
     ·rw [if_pos c11] at H
      have c11b0 : decide (0 < (a0.size : Int)) = true := decide_eq_true c11
      have c11b1 : decide (0 < a0.size) = true := decide_eq_true (by omega)
      clear c11
      (first | rw [c11b0] | (simp only [i64_w, i32_w]; rw [c11b0]) | skip)
      replace H := Option.bind_eq_some_iff.mp H
      obtain ⟨t111, A130, H⟩ := H
      replace H : (if t111 = true then (spec_Complete.j1 kj4 a0 a1 a2 a3 true) else (spec_Complete.j1 kj4 a0 a1 a2 a3 ((bt a0 0) == 118))) = some r := H
      have A13 := Aside0.mk A130
      clear A130
      by_cases c14 : t111 = true
      ·subst c14
       have H1 : (spec_Complete.j1 kj4 a0 a1 a2 a3 true) = some r := by rw [if_pos rfl] at H; exact H
       clear H
       have H := H1
       clear H1
       have H' := Aside0.mk H
       clear H
       have p12 : 0 ≤ (0 : Int) := (by omega)
       have q12 : 0 < a0.size := (by have : (0 : Int) < (a0.size : Int) := of_decide_eq_true (by first | (with_reducible assumption) | assumption); omega)
       have hx12 : ∀ h : 0 < a0.size, ((a0[0]'h).toNat : Int) = bt a0 0 := bt_at a0 0
       clear p12
       have qi12 : (0 < (a0.size : Int)) = True := eq_true (of_decide_eq_true (by first | (with_reducible assumption) | assumption))
       replace q12 := eq_true q12
       go_wp2_with (first | ((with_reducible refine gate_callee (f := 34) rfl ?_); refine goesL_ (some 30) rfl rfl Tryd.func34 (by kernel_rfl) rfl #[.int .u8 (bt a0 0)] rfl (by (try simp only [List.map_toArray, List.map_cons, List.map_nil]); first | done | rfl | (simp only [List.length_drop, List.length_take]; rfl)) ?_; (with_reducible refine (spec_Basic.calls (bt a0 0) true _ A13.out).mono ?_); rintro e w' ⟨rfl, ⟨nd, rfl⟩⟩; refine ⟨_, rfl, ?_⟩))
       go_meet
       case rel => exact ⟨_, (true), (by first | rfl | (simp; done) | (simp [*]; done)), H', ⟨by have := HJ4.out; first | omega | exact Nat.le_refl _⟩, by repeat (first | exact Drawn0.refl _ | apply Drawn0.step)⟩
      ·replace c14 := Bool.eq_false_iff.mpr c14
       subst c14
       have H1 : (spec_Complete.j1 kj4 a0 a1 a2 a3 ((bt a0 0) == 118)) = some r := by rw [if_neg (show ¬ (false = true) by decide)] at H; exact H
       clear H
       have H := H1
       clear H1
       have H' := Aside0.mk H
       clear H
       have p12 : 0 ≤ (0 : Int) := (by omega)
       have q12 : 0 < a0.size := (by have : (0 : Int) < (a0.size : Int) := of_decide_eq_true (by first | (with_reducible assumption) | assumption); omega)
       have hx12 : ∀ h : 0 < a0.size, ((a0[0]'h).toNat : Int) = bt a0 0 := bt_at a0 0
       clear p12
       have qi12 : (0 < (a0.size : Int)) = True := eq_true (of_decide_eq_true (by first | (with_reducible assumption) | assumption))
       replace q12 := eq_true q12
       go_wp2_with (first | ((with_reducible refine gate_callee (f := 34) rfl ?_); refine goesL_ (some 30) rfl rfl Tryd.func34 (by kernel_rfl) rfl #[.int .u8 (bt a0 0)] rfl (by (try simp only [List.map_toArray, List.map_cons, List.map_nil]); first | done | rfl | (simp only [List.length_drop, List.length_take]; rfl)) ?_; (with_reducible refine (spec_Basic.calls (bt a0 0) false _ A13.out).mono ?_); rintro e w' ⟨rfl, ⟨nd, rfl⟩⟩; refine ⟨_, rfl, ?_⟩; have p15 : 0 ≤ (0 : Int) := (by omega); have q15 : 0 < a0.size := (by have : (0 : Int) < (a0.size : Int) := of_decide_eq_true (by first | (with_reducible assumption) | assumption); omega); have hx15 : ∀ h : 0 < a0.size, ((a0[0]'h).toNat : Int) = bt a0 0 := bt_at a0 0; clear p15; have qi15 : (0 < (a0.size : Int)) = True := eq_true (of_decide_eq_true (by first | (with_reducible assumption) | assumption)); replace q15 := eq_true q15))
       go_meet
       case rel => exact ⟨_, (((bt a0 0) == 118)), (by first | rfl | (simp; done) | (simp [*]; done)), H', ⟨by have := HJ4.out; first | omega | exact Nat.le_refl _⟩, by repeat (first | exact Drawn0.refl _ | apply Drawn0.step)⟩
     ·rw [if_neg c11] at H
      exact absurd H (by simp)
    case rest =>
     clear HC10
     try clear c1
     try clear p1
     try clear q1
     try clear hx1
     try clear qi1
     try clear p2
     try clear c3
     try clear c4
     try clear c6
     try clear c6b0
     try clear c6b1
     try clear c7
     try clear c7b0
     try clear c8
     try clear c8b0
     try clear c9
     try clear c11
     try clear c11b0
     try clear c11b1
     try clear p12
     try clear q12
     try clear hx12
     try clear qi12
     try clear c14
     try clear p15
     try clear q15
     try clear hx15
     try clear qi15
     try clear p12
     try clear p15
     try clear p2
     try clear q12
     try clear q15
     obtain ⟨kq, x27_9, rfl, HA, HJ9, ⟨mc9, rfl⟩⟩ := hcut
     cases kq with
     | zero => exact absurd HA.out (by simp [spec_Complete.j1])
     | succ kj9 =>
      have H := HA.out
      clear HA
      simp only [spec_Complete.j1] at H
      by_cases c16 : x27_9 = true
      ·subst c16
       have H1 : (some 1) = some r := by rw [if_pos rfl] at H; exact H
       clear H
       have H := H1
       clear H1
       obtain rfl := Option.some.inj H
       go_wp2
       go_ret
       exact ⟨by first | rfl | (simp; done) | (simp [*]; done), by repeat (first | exact Drawn0.refl _ | apply Drawn0.step)⟩
      ·replace c16 := Bool.eq_false_iff.mpr c16
       subst c16
       have H1 : (if 0 < (a0.size : Int) then (if (bt a0 0) = 97 then (if (a0.size : Int) > 1 then (if 1 < (a0.size : Int) then (spec_Complete.j2 kj9 a0 a1 a2 a3 ((bt a0 1) == 123)) else (none)) else (spec_Complete.j2 kj9 a0 a1 a2 a3 false)) else (spec_Complete.j2 kj9 a0 a1 a2 a3 false)) else (none)) = some r := by rw [if_neg (show ¬ (false = true) by decide)] at H; exact H
       clear H
       have H := H1
       clear H1
       have HC17 := Aside0.mk H
       clear H
       go_upto_region 5 with (fail)
       go_cut [36] (fun v36 wc => ∃ (kq : Nat) (x36_16 : Bool), v36 = .bool x36_16 ∧ Aside0 (spec_Complete.j2 kq a0 a1 a2 a3 x36_16 = some r) ∧ Aside0 (kq ≤ kj9) ∧ Drawn0 w wc)
       case first =>
        have H := HC17.out
        clear HC17
        by_cases c18 : 0 < (a0.size : Int)
        ·rw [if_pos c18] at H
         have c18b0 : decide (0 < (a0.size : Int)) = true := decide_eq_true c18
         have c18b1 : decide (0 < a0.size) = true := decide_eq_true (by omega)
         clear c18
         (first | rw [c18b0] | (simp only [i64_w, i32_w]; rw [c18b0]) | skip)
         by_cases c20 : (bt a0 0) = 97
         ·rw [if_pos c20] at H
          have c20b0 : ((bt a0 0) == 97) = true := beq_iff_eq.mpr c20
          have c20b1 : ((bt a0 0) != 97) = false := bne_eq_false_iff_eq.mpr c20
          clear c20
          by_cases c21 : (a0.size : Int) > 1
          ·rw [if_pos c21] at H
           have c21b0 : decide (1 < (a0.size : Int)) = true := decide_eq_true c21
           have c21b1 : decide (1 < a0.size) = true := decide_eq_true (by omega)
           clear c21
           by_cases c22 : 1 < (a0.size : Int)
           ·rw [if_pos c22] at H
            have c22b0 : decide (1 < (a0.size : Int)) = true := decide_eq_true c22
            have c22b1 : decide (1 < a0.size) = true := decide_eq_true (by omega)
            clear c22
            have H' := Aside0.mk H
            clear H
            have p19 : 0 ≤ (0 : Int) := (by omega)
            have q19 : 0 < a0.size := (by have : (0 : Int) < (a0.size : Int) := of_decide_eq_true (by first | (with_reducible assumption) | assumption); omega)
            have hx19 : ∀ h : 0 < a0.size, ((a0[0]'h).toNat : Int) = bt a0 0 := bt_at a0 0
            clear p19
            have qi19 : (0 < (a0.size : Int)) = True := eq_true (of_decide_eq_true (by first | (with_reducible assumption) | assumption))
            replace q19 := eq_true q19
            have p23 : 0 ≤ (1 : Int) := (by omega)
            have q23 : 1 < a0.size := (by have : (1 : Int) < (a0.size : Int) := of_decide_eq_true (by first | (with_reducible assumption) | assumption); omega)
            have hx23 : ∀ h : 1 < a0.size, ((a0[1]'h).toNat : Int) = bt a0 1 := bt_at a0 1
            clear p23
            have qi23 : (1 < (a0.size : Int)) = True := eq_true (of_decide_eq_true (by first | (with_reducible assumption) | assumption))
            replace q23 := eq_true q23
            go_wp2
            go_meet
            case rel => exact ⟨_, (((bt a0 1) == 123)), (by first | rfl | (simp; done) | (simp [*]; done)), H', ⟨by have := HJ4.out; have := HJ9.out; first | omega | exact Nat.le_refl _⟩, by repeat (first | exact Drawn0.refl _ | apply Drawn0.step)⟩
           ·rw [if_neg c22] at H
            exact absurd H (by simp)
          ·rw [if_neg c21] at H
           have c21b0 : decide (1 < (a0.size : Int)) = false := decide_eq_false c21
           have c21b1 : decide (1 < a0.size) = false := decide_eq_false (by omega)
           clear c21
           have H' := Aside0.mk H
           clear H
           have p19 : 0 ≤ (0 : Int) := (by omega)
           have q19 : 0 < a0.size := (by have : (0 : Int) < (a0.size : Int) := of_decide_eq_true (by first | (with_reducible assumption) | assumption); omega)
           have hx19 : ∀ h : 0 < a0.size, ((a0[0]'h).toNat : Int) = bt a0 0 := bt_at a0 0
           clear p19
           have qi19 : (0 < (a0.size : Int)) = True := eq_true (of_decide_eq_true (by first | (with_reducible assumption) | assumption))
           replace q19 := eq_true q19
           go_wp2
           go_meet
           case rel => exact ⟨_, (false), (by first | rfl | (simp; done) | (simp [*]; done)), H', ⟨by have := HJ4.out; have := HJ9.out; first | omega | exact Nat.le_refl _⟩, by repeat (first | exact Drawn0.refl _ | apply Drawn0.step)⟩
         ·rw [if_neg c20] at H
          have c20b0 : ((bt a0 0) == 97) = false := beq_eq_false_iff_ne.mpr c20
          have c20b1 : ((bt a0 0) != 97) = true := bne_iff_ne.mpr c20
          have H' := Aside0.mk H
          clear H
          have p19 : 0 ≤ (0 : Int) := (by omega)
          have q19 : 0 < a0.size := (by have : (0 : Int) < (a0.size : Int) := of_decide_eq_true (by first | (with_reducible assumption) | assumption); omega)
          have hx19 : ∀ h : 0 < a0.size, ((a0[0]'h).toNat : Int) = bt a0 0 := bt_at a0 0
          clear p19
          have qi19 : (0 < (a0.size : Int)) = True := eq_true (of_decide_eq_true (by first | (with_reducible assumption) | assumption))
          replace q19 := eq_true q19
          go_wp2
          go_meet
          case rel => exact ⟨_, (false), (by first | rfl | (simp; done) | (simp [*]; done)), H', ⟨by have := HJ4.out; have := HJ9.out; first | omega | exact Nat.le_refl _⟩, by repeat (first | exact Drawn0.refl _ | apply Drawn0.step)⟩
        ·rw [if_neg c18] at H
         exact absurd H (by simp)
       case rest =>
        clear HC17
        try clear c1
        try clear p1
        try clear q1
        try clear hx1
        try clear qi1
        try clear c2
        try clear p2
        try clear q2
        try clear hx2
        try clear qi2
        try clear c3
        try clear c4
        try clear c6
        try clear c6b0
        try clear c6b1
        try clear c7
        try clear c7b0
        try clear c8
        try clear c8b0
        try clear c9
        try clear c11
        try clear c11b0
        try clear c11b1
        try clear p12
        try clear q12
        try clear hx12
        try clear qi12
        try clear c14
        try clear p15
        try clear q15
        try clear hx15
        try clear qi15
        try clear c16
        try clear c18
        try clear c18b0
        try clear c18b1
        try clear p19
        try clear q19
        try clear hx19
        try clear qi19
        try clear c20
        try clear c20b0
        try clear c20b1
        try clear c21
        try clear c21b0
        try clear c21b1
        try clear c22
        try clear c22b0
        try clear c22b1
        try clear p23
        try clear q23
        try clear hx23
        try clear qi23
        try clear p1
        try clear p12
        try clear p15
        try clear p19
        try clear p2
        try clear p23
        try clear q1
        try clear q12
        try clear q15
        try clear q19
        try clear q23
        obtain ⟨kq, x36_16, rfl, HA, HJ16, ⟨mc16, rfl⟩⟩ := hcut
        cases kq with
        | zero => exact absurd HA.out (by simp [spec_Complete.j2])
        | succ kj16 =>
         have H := HA.out
         clear HA
         simp only [spec_Complete.j2] at H
         by_cases c24 : x36_16 = true
         ·subst c24
          have H1 : (if (a0.size : Int) < 4 then (spec_Complete.j3 kj16 a0 a1 a2 a3 true) else (if 2 < (a0.size : Int) then ((spec_Basic.f (bt a0 2)).bind fun t112 => (spec_Complete.j3 kj16 a0 a1 a2 a3 (!t112))) else (none))) = some r := by rw [if_pos rfl] at H; exact H
          clear H
          have H := H1
          clear H1
          have HC25 := Aside0.mk H
          clear H
          go_upto_region 6 with (fail)
          go_cut [58] (fun v58 wc => ∃ (kq : Nat) (x58_24 : Bool), v58 = .bool x58_24 ∧ Aside0 (spec_Complete.j3 kq a0 a1 a2 a3 x58_24 = some r) ∧ Aside0 (kq ≤ kj16) ∧ Drawn0 w wc)
          case first =>
           have H := HC25.out
           clear HC25
           by_cases c26 : (a0.size : Int) < 4
           ·rw [if_pos c26] at H
            have c26b0 : decide ((a0.size : Int) < 4) = true := decide_eq_true c26
            have c26b1 : decide (a0.size < 4) = true := decide_eq_true (by omega)
            clear c26
            (first | rw [c26b0] | (simp only [i64_w, i32_w]; rw [c26b0]) | skip)
            have H' := Aside0.mk H
            clear H
            go_wp2
            go_meet
            case rel => exact ⟨_, (true), (by first | rfl | (simp; done) | (simp [*]; done)), H', ⟨by have := HJ4.out; have := HJ9.out; have := HJ16.out; first | omega | exact Nat.le_refl _⟩, by repeat (first | exact Drawn0.refl _ | apply Drawn0.step)⟩
           ·rw [if_neg c26] at H
            have c26b0 : decide ((a0.size : Int) < 4) = false := decide_eq_false c26
            have c26b1 : decide (a0.size < 4) = false := decide_eq_false (by omega)
            clear c26
            (first | rw [c26b0] | (simp only [i64_w, i32_w]; rw [c26b0]) | skip)
            by_cases c27 : 2 < (a0.size : Int)
            ·rw [if_pos c27] at H
             have c27b0 : decide (2 < (a0.size : Int)) = true := decide_eq_true c27
             have c27b1 : decide (2 < a0.size) = true := decide_eq_true (by omega)
             clear c27
             replace H := Option.bind_eq_some_iff.mp H
             obtain ⟨t112, A290, H⟩ := H
             replace H : (spec_Complete.j3 kj16 a0 a1 a2 a3 (!t112)) = some r := H
             have A29 := Aside0.mk A290
             clear A290
             have H' := Aside0.mk H
             clear H
             have p28 : 0 ≤ (2 : Int) := (by omega)
             have q28 : 2 < a0.size := (by have : (2 : Int) < (a0.size : Int) := of_decide_eq_true (by first | (with_reducible assumption) | assumption); omega)
             have hx28 : ∀ h : 2 < a0.size, ((a0[2]'h).toNat : Int) = bt a0 2 := bt_at a0 2
             clear p28
             have qi28 : (2 < (a0.size : Int)) = True := eq_true (of_decide_eq_true (by first | (with_reducible assumption) | assumption))
             replace q28 := eq_true q28
             go_wp2_with (first | (go_at_call 34; (with_reducible refine (spec_Basic.calls (bt a0 2) t112 _ A29.out).mono ?_); rintro e w' ⟨rfl, ⟨nd, rfl⟩⟩))
             go_meet
             case rel => exact ⟨_, (!t112), (by first | rfl | (simp; done) | (simp [*]; done)), H', ⟨by have := HJ4.out; have := HJ9.out; have := HJ16.out; first | omega | exact Nat.le_refl _⟩, by repeat (first | exact Drawn0.refl _ | apply Drawn0.step)⟩
            ·rw [if_neg c27] at H
             exact absurd H (by simp)
          case rest =>
           clear HC25
           try clear c1
           try clear p1
           try clear q1
           try clear hx1
           try clear qi1
           try clear c2
           try clear p2
           try clear q2
           try clear hx2
           try clear qi2
           try clear c3
           try clear c4
           try clear c6
           try clear c6b0
           try clear c6b1
           try clear c7
           try clear c7b0
           try clear c8
           try clear c8b0
           try clear c9
           try clear c11
           try clear c11b0
           try clear c11b1
           try clear p12
           try clear q12
           try clear hx12
           try clear qi12
           try clear c14
           try clear p15
           try clear q15
           try clear hx15
           try clear qi15
           try clear c16
           try clear c18
           try clear c18b0
           try clear c18b1
           try clear p19
           try clear q19
           try clear hx19
           try clear qi19
           try clear c20
           try clear c20b0
           try clear c20b1
           try clear c21
           try clear c21b0
           try clear c21b1
           try clear c22
           try clear c22b0
           try clear c22b1
           try clear p23
           try clear q23
           try clear hx23
           try clear qi23
           try clear c24
           try clear c26
           try clear c26b0
           try clear c26b1
           try clear c27
           try clear c27b0
           try clear c27b1
           try clear p28
           try clear q28
           try clear hx28
           try clear qi28
           try clear p1
           try clear p12
           try clear p15
           try clear p19
           try clear p2
           try clear p23
           try clear p28
           try clear q1
           try clear q12
           try clear q15
           try clear q19
           try clear q2
           try clear q23
           try clear q28
           obtain ⟨kq, x58_24, rfl, HA, HJ24, ⟨mc24, rfl⟩⟩ := hcut
           cases kq with
           | zero => exact absurd HA.out (by simp [spec_Complete.j3])
           | succ kj24 =>
            have H := HA.out
            clear HA
            simp only [spec_Complete.j3] at H
            by_cases c30 : x58_24 = true
            ·subst c30
             have H1 : (some 0) = some r := by rw [if_pos rfl] at H; exact H
             clear H
             have H := H1
             clear H1
             obtain rfl := Option.some.inj H
             go_wp2
             go_ret
             exact ⟨by first | rfl | (simp; done) | (simp [*]; done), by repeat (first | exact Drawn0.refl _ | apply Drawn0.step)⟩
            ·replace c30 := Bool.eq_false_iff.mpr c30
             subst c30
             have H1 : (if 3 ≤ (a0.size : Int) then ((spec_Complete.f kj24 (a0.extract 3 a0.size) (wrap64 (a1 - 1)) a2 (wrap64 (a3 - 1))).bind fun t113 => (if t113 = 0 then (some 0) else (if (a0.size : Int) < (wrap64 (t113 + 4)) then (some 0) else (if 0 ≤ (wrap64 (t113 + 3)) then (if (wrap64 (t113 + 3)) < (a0.size : Int) then (if (bt a0 (wrap64 (t113 + 3))) = 125 then (some (wrap64 (t113 + 4))) else (some 0)) else (none)) else (none))))) else (none)) = some r := by rw [if_neg (show ¬ (false = true) by decide)] at H; exact H
             clear H
             have H := H1
             clear H1
             by_cases c31 : 3 ≤ (a0.size : Int)
             ·rw [if_pos c31] at H
              have c31b0 := eq_true c31
              have c31b1 : decide (3 ≤ (a0.size : Int)) = true := decide_eq_true c31
              clear c31
              replace H := Option.bind_eq_some_iff.mp H
              obtain ⟨t113, A320, H⟩ := H
              replace H : (if t113 = 0 then (some 0) else (if (a0.size : Int) < (wrap64 (t113 + 4)) then (some 0) else (if 0 ≤ (wrap64 (t113 + 3)) then (if (wrap64 (t113 + 3)) < (a0.size : Int) then (if (bt a0 (wrap64 (t113 + 3))) = 125 then (some (wrap64 (t113 + 4))) else (some 0)) else (none)) else (none)))) = some r := H
              have A32 := Aside0.mk A320
              clear A320
              by_cases c33 : t113 = 0
              ·rw [if_pos c33] at H
               have c33b0 : (t113 == 0) = true := beq_iff_eq.mpr c33
               have c33b1 : (t113 != 0) = false := bne_eq_false_iff_eq.mpr c33
               clear c33
               obtain rfl := Option.some.inj H
               go_wp2_with (first | ((with_reducible refine gate_callee (f := 63) rfl ?_); refine goesL_ (some 66) rfl rfl Tryd.func63 (by kernel_rfl) rfl #[.string (a0.extract 3 a0.size), .int .i64 (wrap64 (a1 - 1)), .int .i64 a2, .int .i64 (wrap64 (a3 - 1))] rfl (by (try simp only [List.map_toArray, List.map_cons, List.map_nil]); first | done | rfl | (simp only [List.length_drop, List.length_take]; rfl)) ?_; (with_reducible refine (ih kj24 (by have := HJ4.out; have := HJ9.out; have := HJ16.out; have := HJ24.out; omega) (a0.extract 3 a0.size) (wrap64 (a1 - 1)) a2 (wrap64 (a3 - 1)) t113 _ A32.out).mono ?_); rintro e w' ⟨rfl, ⟨nd, rfl⟩⟩; refine ⟨_, rfl, ?_⟩))
               go_ret
               exact ⟨by first | rfl | (simp; done) | (simp [*]; done), by repeat (first | exact Drawn0.refl _ | apply Drawn0.step)⟩
              ·rw [if_neg c33] at H
               have c33b0 : (t113 == 0) = false := beq_eq_false_iff_ne.mpr c33
               have c33b1 : (t113 != 0) = true := bne_iff_ne.mpr c33
               by_cases c34 : (a0.size : Int) < (wrap64 (t113 + 4))
               ·rw [if_pos c34] at H
                have c34b0 : decide ((a0.size : Int) < (wrap64 (t113 + 4))) = true := decide_eq_true c34
                clear c34
                obtain rfl := Option.some.inj H
                go_wp2_with (first | ((with_reducible refine gate_callee (f := 63) rfl ?_); refine goesL_ (some 66) rfl rfl Tryd.func63 (by kernel_rfl) rfl #[.string (a0.extract 3 a0.size), .int .i64 (wrap64 (a1 - 1)), .int .i64 a2, .int .i64 (wrap64 (a3 - 1))] rfl (by (try simp only [List.map_toArray, List.map_cons, List.map_nil]); first | done | rfl | (simp only [List.length_drop, List.length_take]; rfl)) ?_; (with_reducible refine (ih kj24 (by have := HJ4.out; have := HJ9.out; have := HJ16.out; have := HJ24.out; omega) (a0.extract 3 a0.size) (wrap64 (a1 - 1)) a2 (wrap64 (a3 - 1)) t113 _ A32.out).mono ?_); rintro e w' ⟨rfl, ⟨nd, rfl⟩⟩; refine ⟨_, rfl, ?_⟩))
                go_ret
                exact ⟨by first | rfl | (simp; done) | (simp [*]; done), by repeat (first | exact Drawn0.refl _ | apply Drawn0.step)⟩
               ·rw [if_neg c34] at H
                have c34b0 : decide ((a0.size : Int) < (wrap64 (t113 + 4))) = false := decide_eq_false c34
                clear c34
                obtain ⟨ji35, hji35⟩ : ∃ j_ : Int, (wrap64 (t113 + 3)) = j_ := ⟨_, rfl⟩
                replace H : (if 0 ≤ (ji35) then (if (ji35) < (a0.size : Int) then (if (bt a0 (ji35)) = 125 then (some (wrap64 (t113 + 4))) else (some 0)) else (none)) else (none)) = some r := by first | (rw [hji35] at H; exact H) | (simp only [hji35] at H ⊢; exact H)
                (try rw [hji35] at A32)
                have hji35w : (IntKind.i64.wrap (t113 + 3)) = ji35 := (i64_w _).trans hji35
                by_cases c36 : 0 ≤ (ji35)
                ·rw [if_pos c36] at H
                 have c36b0 : decide (0 ≤ (ji35)) = true := decide_eq_true c36
                 clear c36
                 by_cases c37 : (ji35) < (a0.size : Int)
                 ·rw [if_pos c37] at H
                  have c37b0 : decide ((ji35) < (a0.size : Int)) = true := decide_eq_true c37
                  clear c37
                  by_cases c39 : (bt a0 (ji35)) = 125
                  ·rw [if_pos c39] at H
                   have c39b0 : ((bt a0 (ji35)) == 125) = true := beq_iff_eq.mpr c39
                   have c39b1 : ((bt a0 (ji35)) != 125) = false := bne_eq_false_iff_eq.mpr c39
                   clear c39
                   obtain rfl := Option.some.inj H
                   go_wp2_with (first | ((with_reducible refine gate_callee (f := 63) rfl ?_); refine goesL_ (some 66) rfl rfl Tryd.func63 (by kernel_rfl) rfl #[.string (a0.extract 3 a0.size), .int .i64 (wrap64 (a1 - 1)), .int .i64 a2, .int .i64 (wrap64 (a3 - 1))] rfl (by (try simp only [List.map_toArray, List.map_cons, List.map_nil]); first | done | rfl | (simp only [List.length_drop, List.length_take]; rfl)) ?_; (with_reducible refine (ih kj24 (by have := HJ4.out; have := HJ9.out; have := HJ16.out; have := HJ24.out; omega) (a0.extract 3 a0.size) (wrap64 (a1 - 1)) a2 (wrap64 (a3 - 1)) t113 _ A32.out).mono ?_); rintro e w' ⟨rfl, ⟨nd, rfl⟩⟩; refine ⟨_, rfl, ?_⟩; have p38 : 0 ≤ ((ji35) : Int) := of_decide_eq_true (by first | (with_reducible assumption) | assumption); have q38 : (ji35) < (a0.size : Int) := of_decide_eq_true (by first | (with_reducible assumption) | assumption); have hx38 := bt_at a0 (ji35); replace p38 := eq_true p38; replace q38 := eq_true q38))
                   go_ret
                   exact ⟨by first | rfl | (simp; done) | (simp only [← hji35] <;> (first | rfl | simp)) | (simp [*]; done), by repeat (first | exact Drawn0.refl _ | apply Drawn0.step)⟩
                  ·rw [if_neg c39] at H
                   have c39b0 : ((bt a0 (ji35)) == 125) = false := beq_eq_false_iff_ne.mpr c39
                   have c39b1 : ((bt a0 (ji35)) != 125) = true := bne_iff_ne.mpr c39
                   obtain rfl := Option.some.inj H
                   go_wp2_with (first | ((with_reducible refine gate_callee (f := 63) rfl ?_); refine goesL_ (some 66) rfl rfl Tryd.func63 (by kernel_rfl) rfl #[.string (a0.extract 3 a0.size), .int .i64 (wrap64 (a1 - 1)), .int .i64 a2, .int .i64 (wrap64 (a3 - 1))] rfl (by (try simp only [List.map_toArray, List.map_cons, List.map_nil]); first | done | rfl | (simp only [List.length_drop, List.length_take]; rfl)) ?_; (with_reducible refine (ih kj24 (by have := HJ4.out; have := HJ9.out; have := HJ16.out; have := HJ24.out; omega) (a0.extract 3 a0.size) (wrap64 (a1 - 1)) a2 (wrap64 (a3 - 1)) t113 _ A32.out).mono ?_); rintro e w' ⟨rfl, ⟨nd, rfl⟩⟩; refine ⟨_, rfl, ?_⟩; have p38 : 0 ≤ ((ji35) : Int) := of_decide_eq_true (by first | (with_reducible assumption) | assumption); have q38 : (ji35) < (a0.size : Int) := of_decide_eq_true (by first | (with_reducible assumption) | assumption); have hx38 := bt_at a0 (ji35); replace p38 := eq_true p38; replace q38 := eq_true q38))
                   go_ret
                   exact ⟨by first | rfl | (simp; done) | (simp only [← hji35] <;> (first | rfl | simp)) | (simp [*]; done), by repeat (first | exact Drawn0.refl _ | apply Drawn0.step)⟩
                 ·rw [if_neg c37] at H
                  exact absurd H (by simp)
                ·rw [if_neg c36] at H
                 exact absurd H (by simp)
             ·rw [if_neg c31] at H
              exact absurd H (by simp)
         ·replace c24 := Bool.eq_false_iff.mpr c24
          subst c24
          have H1 : (if 0 < (a0.size : Int) then (if (bt a0 0) = 97 then (if 1 ≤ (a0.size : Int) then ((spec_Complete.f kj16 (a0.extract 1 a0.size) (wrap64 (a1 - 1)) a2 a3).bind fun t114 => (if t114 > 0 then (some (wrap64 (t114 + 1))) else (some 0))) else (none)) else (if (bt a0 0) = 40 then (spec_Complete.l0 kj16 a0 a1 a2 a3 1) else (some 0))) else (none)) = some r := by rw [if_neg (show ¬ (false = true) by decide)] at H; exact H
          clear H
          have H := H1
          clear H1
          by_cases c40 : 0 < (a0.size : Int)
          ·rw [if_pos c40] at H
           have c40b0 : decide (0 < (a0.size : Int)) = true := decide_eq_true c40
           have c40b1 : decide (0 < a0.size) = true := decide_eq_true (by omega)
           clear c40
           by_cases c42 : (bt a0 0) = 97
           ·rw [if_pos c42] at H
            have c42b0 : ((bt a0 0) == 97) = true := beq_iff_eq.mpr c42
            have c42b1 : ((bt a0 0) != 97) = false := bne_eq_false_iff_eq.mpr c42
            clear c42
            by_cases c43 : 1 ≤ (a0.size : Int)
            ·rw [if_pos c43] at H
             have c43b0 := eq_true c43
             have c43b1 : decide (1 ≤ (a0.size : Int)) = true := decide_eq_true c43
             clear c43
             replace H := Option.bind_eq_some_iff.mp H
             obtain ⟨t114, A440, H⟩ := H
             replace H : (if t114 > 0 then (some (wrap64 (t114 + 1))) else (some 0)) = some r := H
             have A44 := Aside0.mk A440
             clear A440
             by_cases c45 : t114 > 0
             ·rw [if_pos c45] at H
              have c45b0 : decide (0 < t114) = true := decide_eq_true c45
              clear c45
              obtain rfl := Option.some.inj H
              have p41 : 0 ≤ (0 : Int) := (by omega)
              have q41 : 0 < a0.size := (by have : (0 : Int) < (a0.size : Int) := of_decide_eq_true (by first | (with_reducible assumption) | assumption); omega)
              have hx41 : ∀ h : 0 < a0.size, ((a0[0]'h).toNat : Int) = bt a0 0 := bt_at a0 0
              clear p41
              have qi41 : (0 < (a0.size : Int)) = True := eq_true (of_decide_eq_true (by first | (with_reducible assumption) | assumption))
              replace q41 := eq_true q41
              go_wp2_with (first | ((with_reducible refine gate_callee (f := 63) rfl ?_); refine goesL_ (some 95) rfl rfl Tryd.func63 (by kernel_rfl) rfl #[.string (a0.extract 1 a0.size), .int .i64 (wrap64 (a1 - 1)), .int .i64 a2, .int .i64 a3] rfl (by (try simp only [List.map_toArray, List.map_cons, List.map_nil]); first | done | rfl | (simp only [List.length_drop, List.length_take]; rfl)) ?_; (with_reducible refine (ih kj16 (by have := HJ4.out; have := HJ9.out; have := HJ16.out; omega) (a0.extract 1 a0.size) (wrap64 (a1 - 1)) a2 a3 t114 _ A44.out).mono ?_); rintro e w' ⟨rfl, ⟨nd, rfl⟩⟩; refine ⟨_, rfl, ?_⟩))
              go_ret
              exact ⟨by first | rfl | (simp; done) | (simp [*]; done), by repeat (first | exact Drawn0.refl _ | apply Drawn0.step)⟩
             ·rw [if_neg c45] at H
              have c45b0 : decide (0 < t114) = false := decide_eq_false c45
              clear c45
              obtain rfl := Option.some.inj H
              have p41 : 0 ≤ (0 : Int) := (by omega)
              have q41 : 0 < a0.size := (by have : (0 : Int) < (a0.size : Int) := of_decide_eq_true (by first | (with_reducible assumption) | assumption); omega)
              have hx41 : ∀ h : 0 < a0.size, ((a0[0]'h).toNat : Int) = bt a0 0 := bt_at a0 0
              clear p41
              have qi41 : (0 < (a0.size : Int)) = True := eq_true (of_decide_eq_true (by first | (with_reducible assumption) | assumption))
              replace q41 := eq_true q41
              go_wp2_with (first | ((with_reducible refine gate_callee (f := 63) rfl ?_); refine goesL_ (some 95) rfl rfl Tryd.func63 (by kernel_rfl) rfl #[.string (a0.extract 1 a0.size), .int .i64 (wrap64 (a1 - 1)), .int .i64 a2, .int .i64 a3] rfl (by (try simp only [List.map_toArray, List.map_cons, List.map_nil]); first | done | rfl | (simp only [List.length_drop, List.length_take]; rfl)) ?_; (with_reducible refine (ih kj16 (by have := HJ4.out; have := HJ9.out; have := HJ16.out; omega) (a0.extract 1 a0.size) (wrap64 (a1 - 1)) a2 a3 t114 _ A44.out).mono ?_); rintro e w' ⟨rfl, ⟨nd, rfl⟩⟩; refine ⟨_, rfl, ?_⟩))
              go_ret
              exact ⟨by first | rfl | (simp; done) | (simp [*]; done), by repeat (first | exact Drawn0.refl _ | apply Drawn0.step)⟩
            ·rw [if_neg c43] at H
             exact absurd H (by simp)
           ·rw [if_neg c42] at H
            have c42b0 : ((bt a0 0) == 97) = false := beq_eq_false_iff_ne.mpr c42
            have c42b1 : ((bt a0 0) != 97) = true := bne_iff_ne.mpr c42
            by_cases c47 : (bt a0 0) = 40
            ·rw [if_pos c47] at H
             have c47b0 : ((bt a0 0) == 40) = true := beq_iff_eq.mpr c47
             have c47b1 : ((bt a0 0) != 40) = false := bne_eq_false_iff_eq.mpr c47
             clear c47
             have H' := Aside0.mk H
             clear H
             have p41 : 0 ≤ (0 : Int) := (by omega)
             have q41 : 0 < a0.size := (by have : (0 : Int) < (a0.size : Int) := of_decide_eq_true (by first | (with_reducible assumption) | assumption); omega)
             have hx41 : ∀ h : 0 < a0.size, ((a0[0]'h).toNat : Int) = bt a0 0 := bt_at a0 0
             clear p41
             have qi41 : (0 < (a0.size : Int)) = True := eq_true (of_decide_eq_true (by first | (with_reducible assumption) | assumption))
             replace q41 := eq_true q41
             have p46 : 0 ≤ (0 : Int) := (by omega)
             have q46 : 0 < a0.size := (by have : (0 : Int) < (a0.size : Int) := of_decide_eq_true (by first | (with_reducible assumption) | assumption); omega)
             have hx46 : ∀ h : 0 < a0.size, ((a0[0]'h).toNat : Int) = bt a0 0 := bt_at a0 0
             clear p46
             have qi46 : (0 < (a0.size : Int)) = True := eq_true (of_decide_eq_true (by first | (with_reducible assumption) | assumption))
             replace q46 := eq_true q46
             go_wp2
             go_loopg [11] kj16 (fun kq v11 w' => ∃ (x11_4 : Int), v11 = .int .i64 x11_4 ∧ Aside0 (spec_Complete.l0 kq a0 a1 a2 a3 x11_4 = some r) ∧ Aside0 (kq ≤ kj16) ∧ Drawn0 w w')
             case atStart => exact ⟨(1), (by first | rfl | (simp; done) | (simp [*]; done)), H', ⟨Nat.le_refl _⟩, by repeat (first | exact Drawn0.refl _ | apply Drawn0.step)⟩
             case round =>
              clear H'
              try clear c1
              try clear p1
              try clear q1
              try clear hx1
              try clear qi1
              try clear c2
              try clear p2
              try clear q2
              try clear hx2
              try clear qi2
              try clear c3
              try clear p3
              try clear q3
              try clear hx3
              try clear c4
              try clear p4
              try clear q4
              try clear hx4
              try clear qi4
              try clear c6
              try clear c6b0
              try clear c6b1
              try clear p6
              try clear c7
              try clear c7b0
              try clear c8
              try clear c8b0
              try clear c9
              try clear c11
              try clear c11b0
              try clear c11b1
              try clear p12
              try clear q12
              try clear hx12
              try clear qi12
              try clear c14
              try clear p15
              try clear q15
              try clear hx15
              try clear qi15
              try clear c16
              try clear c18
              try clear c18b0
              try clear c18b1
              try clear p19
              try clear q19
              try clear hx19
              try clear qi19
              try clear c20
              try clear c20b0
              try clear c20b1
              try clear c21
              try clear c21b0
              try clear c21b1
              try clear c22
              try clear c22b0
              try clear c22b1
              try clear p23
              try clear q23
              try clear hx23
              try clear qi23
              try clear c24
              try clear c26
              try clear c26b0
              try clear c26b1
              try clear c27
              try clear c27b0
              try clear c27b1
              try clear p28
              try clear q28
              try clear hx28
              try clear qi28
              try clear c30
              try clear c31
              try clear c31b0
              try clear c31b1
              try clear c33
              try clear c33b0
              try clear c33b1
              try clear c34
              try clear c34b0
              try clear c36
              try clear c36b0
              try clear c37
              try clear c37b0
              try clear p38
              try clear q38
              try clear hx38
              try clear c39
              try clear c39b0
              try clear c39b1
              try clear c40
              try clear c40b0
              try clear c40b1
              try clear p41
              try clear q41
              try clear hx41
              try clear qi41
              try clear c42
              try clear c42b0
              try clear c42b1
              try clear c43
              try clear c43b0
              try clear c43b1
              try clear c45
              try clear c45b0
              try clear p46
              try clear q46
              try clear hx46
              try clear qi46
              try clear c47
              try clear c47b0
              try clear c47b1
              try clear p1
              try clear p12
              try clear p15
              try clear p19
              try clear p2
              try clear p23
              try clear p28
              try clear p38
              try clear p41
              try clear p46
              try clear q1
              try clear q12
              try clear q15
              try clear q19
              try clear q2
              try clear q23
              try clear q28
              try clear q38
              try clear q41
              try clear q46
              obtain ⟨x11_4, rfl, HA, HK4, ⟨m4, rfl⟩⟩ := hrel
              cases gk with
              | zero => exact absurd HA.out (by simp [spec_Complete.l0])
              | succ k4 =>
               have H := HA.out
               clear HA
               simp only [spec_Complete.l0] at H
               have HC48 := Aside0.mk H
               clear H
               go_upto_region 18 with (fail)
               go_cut [113] (fun v113 wc => ∃ (kq : Nat) (x113_47 : Bool), v113 = .bool x113_47 ∧ Aside0 (spec_Complete.j5 kq a0 a1 a2 a3 x11_4 x113_47 = some r) ∧ Aside0 (kq ≤ k4) ∧ Drawn0 w wc)
               case first =>
                have H := HC48.out
                clear HC48
                by_cases c49 : x11_4 < (a0.size : Int)
                ·rw [if_pos c49] at H
                 have c49b0 : decide (x11_4 < (a0.size : Int)) = true := decide_eq_true c49
                 clear c49
                 (first | rw [c49b0] | (simp only [i64_w, i32_w]; rw [c49b0]) | skip)
                 by_cases c50 : 0 ≤ x11_4
                 ·rw [if_pos c50] at H
                  have c50b0 : decide (0 ≤ x11_4) = true := decide_eq_true c50
                  clear c50
                  have H' := Aside0.mk H
                  clear H
                  have p51 : 0 ≤ (x11_4 : Int) := of_decide_eq_true (by first | (with_reducible assumption) | assumption)
                  have q51 : x11_4 < (a0.size : Int) := of_decide_eq_true (by first | (with_reducible assumption) | assumption)
                  have hx51 := bt_at a0 x11_4
                  replace p51 := eq_true p51
                  replace q51 := eq_true q51
                  go_wp2
                  go_meet
                  case rel => exact ⟨_, (((bt a0 x11_4) != 41)), (by first | rfl | (simp; done) | (simp [*]; done)), H', ⟨by have := HJ4.out; have := HJ9.out; have := HJ16.out; have := HK4.out; first | omega | exact Nat.le_refl _⟩, by repeat (first | exact Drawn0.refl _ | apply Drawn0.step)⟩
                 ·rw [if_neg c50] at H
                  exact absurd H (by simp)
                ·rw [if_neg c49] at H
                 have c49b0 : decide (x11_4 < (a0.size : Int)) = false := decide_eq_false c49
                 clear c49
                 (first | rw [c49b0] | (simp only [i64_w, i32_w]; rw [c49b0]) | skip)
                 have H' := Aside0.mk H
                 clear H
                 go_wp2
                 go_meet
                 case rel => exact ⟨_, (false), (by first | rfl | (simp; done) | (simp [*]; done)), H', ⟨by have := HJ4.out; have := HJ9.out; have := HJ16.out; have := HK4.out; first | omega | exact Nat.le_refl _⟩, by repeat (first | exact Drawn0.refl _ | apply Drawn0.step)⟩
               case rest =>
                clear HC48
                try clear c1
                try clear p1
                try clear q1
                try clear hx1
                try clear qi1
                try clear c2
                try clear p2
                try clear q2
                try clear hx2
                try clear qi2
                try clear c3
                try clear p3
                try clear q3
                try clear hx3
                try clear c4
                try clear p4
                try clear q4
                try clear hx4
                try clear qi4
                try clear c5
                try clear p5
                try clear q5
                try clear hx5
                try clear c6
                try clear c6b0
                try clear c6b1
                try clear p6
                try clear c7
                try clear c7b0
                try clear c8
                try clear c8b0
                try clear c9
                try clear c11
                try clear c11b0
                try clear c11b1
                try clear p12
                try clear q12
                try clear hx12
                try clear qi12
                try clear c14
                try clear p15
                try clear q15
                try clear hx15
                try clear qi15
                try clear c16
                try clear c18
                try clear c18b0
                try clear c18b1
                try clear p19
                try clear q19
                try clear hx19
                try clear qi19
                try clear c20
                try clear c20b0
                try clear c20b1
                try clear c21
                try clear c21b0
                try clear c21b1
                try clear c22
                try clear c22b0
                try clear c22b1
                try clear p23
                try clear q23
                try clear hx23
                try clear qi23
                try clear c24
                try clear c26
                try clear c26b0
                try clear c26b1
                try clear c27
                try clear c27b0
                try clear c27b1
                try clear p28
                try clear q28
                try clear hx28
                try clear qi28
                try clear c30
                try clear c31
                try clear c31b0
                try clear c31b1
                try clear c33
                try clear c33b0
                try clear c33b1
                try clear c34
                try clear c34b0
                try clear c36
                try clear c36b0
                try clear c37
                try clear c37b0
                try clear p38
                try clear q38
                try clear hx38
                try clear c39
                try clear c39b0
                try clear c39b1
                try clear c40
                try clear c40b0
                try clear c40b1
                try clear p41
                try clear q41
                try clear hx41
                try clear qi41
                try clear c42
                try clear c42b0
                try clear c42b1
                try clear c43
                try clear c43b0
                try clear c43b1
                try clear c45
                try clear c45b0
                try clear p46
                try clear q46
                try clear hx46
                try clear qi46
                try clear c47
                try clear c47b0
                try clear c47b1
                try clear c49
                try clear c49b0
                try clear c50
                try clear c50b0
                try clear p51
                try clear q51
                try clear hx51
                try clear p1
                try clear p12
                try clear p15
                try clear p19
                try clear p2
                try clear p23
                try clear p28
                try clear p3
                try clear p38
                try clear p4
                try clear p41
                try clear p46
                try clear p51
                try clear p6
                try clear q1
                try clear q12
                try clear q15
                try clear q19
                try clear q2
                try clear q23
                try clear q28
                try clear q3
                try clear q38
                try clear q4
                try clear q41
                try clear q46
                try clear q51
                obtain ⟨kq, x113_47, rfl, HA, HJ47, ⟨mc47, rfl⟩⟩ := hcut
                cases kq with
                | zero => exact absurd HA.out (by simp [spec_Complete.j5])
                | succ kj47 =>
                 have H := HA.out
                 clear HA
                 simp only [spec_Complete.j5] at H
                 by_cases c52 : x113_47 = true
                 ·subst c52
                  have H1 : (if 0 ≤ x11_4 then (if x11_4 ≤ (a0.size : Int) then ((spec_Complete.f kj47 (a0.extract (x11_4 : Int).toNat a0.size) a1 (wrap64 (a2 - 1)) a3).bind fun t115 => (if t115 = 0 then (some 0) else (spec_Complete.l0 kj47 a0 a1 a2 a3 (wrap64 (x11_4 + t115))))) else (none)) else (none)) = some r := by rw [if_pos rfl] at H; exact H
                  clear H
                  have H := H1
                  clear H1
                  by_cases c53 : 0 ≤ x11_4
                  ·rw [if_pos c53] at H
                   have c53b0 := eq_true c53
                   have c53b1 : decide (0 ≤ x11_4) = true := decide_eq_true c53
                   clear c53
                   by_cases c54 : x11_4 ≤ (a0.size : Int)
                   ·rw [if_pos c54] at H
                    have c54b0 := eq_true c54
                    have c54b1 : decide (x11_4 ≤ (a0.size : Int)) = true := decide_eq_true c54
                    clear c54
                    replace H := Option.bind_eq_some_iff.mp H
                    obtain ⟨t115, A550, H⟩ := H
                    replace H : (if t115 = 0 then (some 0) else (spec_Complete.l0 kj47 a0 a1 a2 a3 (wrap64 (x11_4 + t115)))) = some r := H
                    have A55 := Aside0.mk A550
                    clear A550
                    by_cases c56 : t115 = 0
                    ·rw [if_pos c56] at H
                     have c56b0 : (t115 == 0) = true := beq_iff_eq.mpr c56
                     have c56b1 : (t115 != 0) = false := bne_eq_false_iff_eq.mpr c56
                     clear c56
                     obtain rfl := Option.some.inj H
                     go_wp2_with (first | ((with_reducible refine gate_callee (f := 63) rfl ?_); refine goesL_ (some 121) rfl rfl Tryd.func63 (by kernel_rfl) rfl #[.string (a0.extract (x11_4 : Int).toNat a0.size), .int .i64 a1, .int .i64 (wrap64 (a2 - 1)), .int .i64 a3] rfl (by (try simp only [List.map_toArray, List.map_cons, List.map_nil]); first | done | rfl | (simp only [List.length_drop, List.length_take]; rfl)) ?_; (with_reducible refine (ih kj47 (by have := HJ4.out; have := HJ9.out; have := HJ16.out; have := HK4.out; have := HJ47.out; omega) (a0.extract (x11_4 : Int).toNat a0.size) a1 (wrap64 (a2 - 1)) a3 t115 _ A55.out).mono ?_); rintro e w' ⟨rfl, ⟨nd, rfl⟩⟩; refine ⟨_, rfl, ?_⟩))
                     go_ret
                     exact ⟨by first | rfl | (simp; done) | (simp [*]; done), by repeat (first | exact Drawn0.refl _ | apply Drawn0.step)⟩
                    ·rw [if_neg c56] at H
                     have c56b0 : (t115 == 0) = false := beq_eq_false_iff_ne.mpr c56
                     have c56b1 : (t115 != 0) = true := bne_iff_ne.mpr c56
                     have H' := Aside0.mk H
                     clear H
                     go_wp2_with (first | ((with_reducible refine gate_callee (f := 63) rfl ?_); refine goesL_ (some 121) rfl rfl Tryd.func63 (by kernel_rfl) rfl #[.string (a0.extract (x11_4 : Int).toNat a0.size), .int .i64 a1, .int .i64 (wrap64 (a2 - 1)), .int .i64 a3] rfl (by (try simp only [List.map_toArray, List.map_cons, List.map_nil]); first | done | rfl | (simp only [List.length_drop, List.length_take]; rfl)) ?_; (with_reducible refine (ih kj47 (by have := HJ4.out; have := HJ9.out; have := HJ16.out; have := HK4.out; have := HJ47.out; omega) (a0.extract (x11_4 : Int).toNat a0.size) a1 (wrap64 (a2 - 1)) a3 t115 _ A55.out).mono ?_); rintro e w' ⟨rfl, ⟨nd, rfl⟩⟩; refine ⟨_, rfl, ?_⟩))
                     go_roundg kj47
                     case measure => have := HJ4.out; have := HJ9.out; have := HJ16.out; have := HK4.out; have := HJ47.out; omega
                     case rel => exact ⟨(wrap64 (x11_4 + t115)), (by first | rfl | (simp; done) | (simp [*]; done)), H', ⟨by have := HJ4.out; have := HJ9.out; have := HJ16.out; have := HK4.out; have := HJ47.out; omega⟩, by repeat (first | exact Drawn0.refl _ | apply Drawn0.step)⟩
                   ·rw [if_neg c54] at H
                    exact absurd H (by simp)
                  ·rw [if_neg c53] at H
                   exact absurd H (by simp)
                 ·replace c52 := Bool.eq_false_iff.mpr c52
                  subst c52
                  have H1 : (if x11_4 > 1 then (if x11_4 < (a0.size : Int) then (some (wrap64 (x11_4 + 1))) else (some 0)) else (some 0)) = some r := by rw [if_neg (show ¬ (false = true) by decide)] at H; exact H
                  clear H
                  have H := H1
                  clear H1
                  by_cases c57 : x11_4 > 1
                  ·rw [if_pos c57] at H
                   have c57b0 : decide (1 < x11_4) = true := decide_eq_true c57
                   clear c57
                   by_cases c58 : x11_4 < (a0.size : Int)
                   ·rw [if_pos c58] at H
                    have c58b0 : decide (x11_4 < (a0.size : Int)) = true := decide_eq_true c58
                    clear c58
                    obtain rfl := Option.some.inj H
                    go_wp2
                    go_ret
                    exact ⟨by first | rfl | (simp; done) | (simp [*]; done), by repeat (first | exact Drawn0.refl _ | apply Drawn0.step)⟩
                   ·rw [if_neg c58] at H
                    have c58b0 : decide (x11_4 < (a0.size : Int)) = false := decide_eq_false c58
                    clear c58
                    obtain rfl := Option.some.inj H
                    go_wp2
                    go_ret
                    exact ⟨by first | rfl | (simp; done) | (simp [*]; done), by repeat (first | exact Drawn0.refl _ | apply Drawn0.step)⟩
                  ·rw [if_neg c57] at H
                   have c57b0 : decide (1 < x11_4) = false := decide_eq_false c57
                   clear c57
                   obtain rfl := Option.some.inj H
                   go_wp2
                   go_ret
                   exact ⟨by first | rfl | (simp; done) | (simp [*]; done), by repeat (first | exact Drawn0.refl _ | apply Drawn0.step)⟩
            ·rw [if_neg c47] at H
             have c47b0 : ((bt a0 0) == 40) = false := beq_eq_false_iff_ne.mpr c47
             have c47b1 : ((bt a0 0) != 40) = true := bne_iff_ne.mpr c47
             obtain rfl := Option.some.inj H
             have p41 : 0 ≤ (0 : Int) := (by omega)
             have q41 : 0 < a0.size := (by have : (0 : Int) < (a0.size : Int) := of_decide_eq_true (by first | (with_reducible assumption) | assumption); omega)
             have hx41 : ∀ h : 0 < a0.size, ((a0[0]'h).toNat : Int) = bt a0 0 := bt_at a0 0
             clear p41
             have qi41 : (0 < (a0.size : Int)) = True := eq_true (of_decide_eq_true (by first | (with_reducible assumption) | assumption))
             replace q41 := eq_true q41
             have p46 : 0 ≤ (0 : Int) := (by omega)
             have q46 : 0 < a0.size := (by have : (0 : Int) < (a0.size : Int) := of_decide_eq_true (by first | (with_reducible assumption) | assumption); omega)
             have hx46 : ∀ h : 0 < a0.size, ((a0[0]'h).toNat : Int) = bt a0 0 := bt_at a0 0
             clear p46
             have qi46 : (0 < (a0.size : Int)) = True := eq_true (of_decide_eq_true (by first | (with_reducible assumption) | assumption))
             replace q46 := eq_true q46
             go_wp2
             go_ret
             exact ⟨by first | rfl | (simp; done) | (simp [*]; done), by repeat (first | exact Drawn0.refl _ | apply Drawn0.step)⟩
          ·rw [if_neg c40] at H
           exact absurd H (by simp)

end Go.Proofs.YtboioihppjhjcaaDoor.MFnSgOf

namespace Go.Proofs.YtboioihppjhjcaaDoor.MFnSgOf
open Go.RowKit Go.Proofs.YtboioihppjhjcaaDoorW.PrintWords Go.Proofs.YtboioihppjhjcaaDoorW.PrintLast Go.Proofs.YtboioihppjhjcaaDoorW.PrintMore
attribute [local go_sem] max2_int min2_int max_two min_two max_three min_three max_four min_four   -- for this text's walks alone
set_option linter.unusedVariables false
set_option linter.unusedSimpArgs false

/-! ### spec_complete: function 43 -/
def spec_complete.f (k : Nat) (a0 : ByteArray) : Option (Int) := (spec_Complete.f k a0 32 32 32).bind fun t116 => (some t116)
set_option maxHeartbeats 8000000 in
set_option maxRecDepth 100000 in
theorem spec_complete.calls (k : Nat) (a0 : ByteArray) (r : Int) (w : World) (h : spec_complete.f k a0 = some r) :
  Calls Tryd.prog 43 #[.string a0] w fun e w' => e = .returned (.int .i64 r) ∧ Drawn0 w w' := by
 have H : ((spec_Complete.f k a0 32 32 32).bind fun t116 => (some t116)) = some r := h
 clear h
 replace H := Option.bind_eq_some_iff.mp H
 obtain ⟨t116, A20, H⟩ := H
 replace H : (some t116) = some r := H
 have A2 := Aside0.mk A20
 clear A20
 obtain rfl := Option.some.inj H
 go_enter Tryd.func43, Tryd.ntmps43
 go_wp2_with (first | ((with_reducible refine gate_callee (f := 63) rfl ?_); refine goesL_ (some 4) rfl rfl Tryd.func63 (by kernel_rfl) rfl #[.string a0, .int .i64 32, .int .i64 32, .int .i64 32] rfl (by (try simp only [List.map_toArray, List.map_cons, List.map_nil]); first | done | rfl | (simp only [List.length_drop, List.length_take]; rfl)) ?_; (with_reducible refine (spec_Complete.calls k a0 32 32 32 t116 _ A2.out).mono ?_); rintro e w' ⟨rfl, ⟨nd, rfl⟩⟩; refine ⟨_, rfl, ?_⟩))
 go_ret
 exact ⟨by first | rfl | (simp; done) | (simp [*]; done), by repeat (first | exact Drawn0.refl _ | apply Drawn0.step)⟩

/-! ### spec_Types: function 29 -/
def spec_Types.l0 : Nat → ByteArray → List ByteArray → Option (List ByteArray × Bool)
 | 0, _, _ => none
 | k + 1, x0, x4 => if x0.toList = ([] : List UInt8) then (some (x4, true)) else ((spec_complete.f k x0).bind fun t117 => (if t117 = 0 then (some (([] : List ByteArray), false)) else (if 0 ≤ t117 then (if t117 ≤ (x0.size : Int) then (if x4.length < 8796093022208 then (spec_Types.l0 k (x0.extract (t117 : Int).toNat x0.size) (x4 ++ [x0.extract 0 (t117 : Int).toNat])) else (none)) else (none)) else (none))))
def spec_Types.f (k : Nat) (a0 : ByteArray) : Option (List ByteArray × Bool) := if (a0.size : Int) > 255 then (some (([] : List ByteArray), false)) else (spec_Types.l0 k a0 ([] : List ByteArray))
set_option maxHeartbeats 8000000 in
set_option maxRecDepth 100000 in
theorem spec_Types.calls (k : Nat) (a0 : ByteArray) (r1 : List ByteArray) (r2 : Bool) (w : World) (h : spec_Types.f k a0 = some (r1, r2)) :
  Calls Tryd.prog 29 #[.string a0] w fun e w' => ∃ v0_ : Value, e = .returned (.tuple #[v0_, .bool r2]) ∧ Kd.R Kd.string 9 w' w.heap.size (fun _ => True) v0_ r1 ∧ Below w.heap.size w w' := by
 have HB := Aside0.mk (Below.refl w.heap.size w)
 have H : (if (a0.size : Int) > 255 then (some (([] : List ByteArray), false)) else (spec_Types.l0 k a0 ([] : List ByteArray))) = some (r1, r2) := h
 clear h
 by_cases c2 : (a0.size : Int) > 255
 ·rw [if_pos c2] at H
  have c2b0 : decide (255 < (a0.size : Int)) = true := decide_eq_true c2
  have c2b1 : decide (255 < a0.size) = true := decide_eq_true (by omega)
  clear c2
  simp only [Option.some.injEq, Prod.mk.injEq] at H
  obtain ⟨rfl, rfl⟩ := H
  go_enter Tryd.func29, Tryd.ntmps29
  go_wp2
  go_ret2
  exact ⟨_, by first | rfl | (simp [errW_none, errW_some] <;> rfl) | (simp [*, errW_none, errW_some] <;> rfl) | (simp (disch := omega) only [wrap64_id] <;> rfl), by first | exact Kd.R_nil _ _ _ _ _ | exact Kd.N_nil _ _ _ _ _ | exact Kd.V_nil _ _ _ _ _ | exact Kd.Q_nil _ _ _ _ _ | exact Kd.S_nil _ _ _ _ _, by repeat (first | (with_reducible first | exact HB.out | apply below_alloc | apply pw_below_drewN | apply below_drew1) | exact HB.out)⟩
 ·rw [if_neg c2] at H
  have c2b0 : decide (255 < (a0.size : Int)) = false := decide_eq_false c2
  have c2b1 : decide (255 < a0.size) = false := decide_eq_false (by omega)
  clear c2
  have H' := Aside0.mk H
  clear H
  go_enter Tryd.func29, Tryd.ntmps29
  go_wp2
  go_loopg [0, 4] k (fun kq v0 v4 w' => ∃ (x0_1 : ByteArray) (x4_1 : List ByteArray), v0 = .string x0_1 ∧ Aside0 (spec_Types.l0 kq x0_1 x4_1 = some (r1, r2)) ∧ Aside0 (kq ≤ k) ∧ Aside0 (Kd.R Kd.string 9 w' w.heap.size (fun _ => True) v4 x4_1) ∧ Aside0 (Below w.heap.size w w'))
  case atStart => exact ⟨(a0), (([] : List ByteArray)), (by first | rfl | (simp; done) | (simp [*]; done)), H', ⟨Nat.le_refl _⟩, ⟨by first | exact Kd.R_nil _ _ _ _ _ | exact Kd.N_nil _ _ _ _ _ | exact Kd.V_nil _ _ _ _ _ | exact Kd.Q_nil _ _ _ _ _ | exact Kd.S_nil _ _ _ _ _⟩, ⟨by repeat (first | (with_reducible first | exact HB.out | apply below_alloc | apply pw_below_drewN | apply below_drew1) | exact HB.out)⟩⟩
  case round =>
   clear H'
   try clear c2
   try clear c2b0
   try clear c2b1
   try clear p2
   obtain ⟨x0_1, x4_1, rfl, HA, HK1, HO_4, HB⟩ := hrel
   cases gk with
   | zero => exact absurd HA.out (by simp [spec_Types.l0])
   | succ k1 =>
    have H := HA.out
    clear HA
    simp only [spec_Types.l0] at H
    by_cases c3 : x0_1.toList = ([] : List UInt8)
    ·rw [if_pos c3] at H
     have c3b0 : (x0_1.toList == ([] : List UInt8)) = true := beq_iff_eq.mpr c3
     have c3b1 : (x0_1.toList != ([] : List UInt8)) = false := bne_eq_false_iff_eq.mpr c3
     clear c3
     simp only [Option.some.injEq, Prod.mk.injEq] at H
     obtain ⟨rfl, rfl⟩ := H
     go_wp2
     go_ret2
     exact ⟨_, by first | rfl | (simp [errW_none, errW_some] <;> rfl) | (simp [*, errW_none, errW_some] <;> rfl) | (simp (disch := omega) only [wrap64_id] <;> rfl), by (with_reducible repeat (first | apply Kd.R_alloc | apply Kd.R_drewN | apply Kd.R_drew)); exact HO_4.out, by repeat (first | (with_reducible first | exact HB.out | apply below_alloc | apply pw_below_drewN | apply below_drew1) | exact HB.out)⟩
    ·rw [if_neg c3] at H
     have c3b0 : (x0_1.toList == ([] : List UInt8)) = false := beq_eq_false_iff_ne.mpr c3
     have c3b1 : (x0_1.toList != ([] : List UInt8)) = true := bne_iff_ne.mpr c3
     replace H := Option.bind_eq_some_iff.mp H
     obtain ⟨t117, A40, H⟩ := H
     replace H : (if t117 = 0 then (some (([] : List ByteArray), false)) else (if 0 ≤ t117 then (if t117 ≤ (x0_1.size : Int) then (if x4_1.length < 8796093022208 then (spec_Types.l0 k1 (x0_1.extract (t117 : Int).toNat x0_1.size) (x4_1 ++ [x0_1.extract 0 (t117 : Int).toNat])) else (none)) else (none)) else (none))) = some (r1, r2) := H
     have A4 := Aside0.mk A40
     clear A40
     by_cases c5 : t117 = 0
     ·rw [if_pos c5] at H
      have c5b0 : (t117 == 0) = true := beq_iff_eq.mpr c5
      have c5b1 : (t117 != 0) = false := bne_eq_false_iff_eq.mpr c5
      clear c5
      simp only [Option.some.injEq, Prod.mk.injEq] at H
      obtain ⟨rfl, rfl⟩ := H
      go_wp2_with (first | ((with_reducible refine gate_callee (f := 43) rfl ?_); refine goesL_ (some 12) rfl rfl Tryd.func43 (by kernel_rfl) rfl #[.string x0_1] rfl (by (try simp only [List.map_toArray, List.map_cons, List.map_nil]); first | done | rfl | (simp only [List.length_drop, List.length_take]; rfl)) ?_; (with_reducible refine (spec_complete.calls k1 x0_1 t117 _ A4.out).mono ?_); rintro e w' ⟨rfl, ⟨nd, rfl⟩⟩; refine ⟨_, rfl, ?_⟩))
      go_ret2
      exact ⟨_, by first | rfl | (simp [errW_none, errW_some] <;> rfl) | (simp [*, errW_none, errW_some] <;> rfl) | (simp (disch := omega) only [wrap64_id] <;> rfl), by first | exact Kd.R_nil _ _ _ _ _ | exact Kd.N_nil _ _ _ _ _ | exact Kd.V_nil _ _ _ _ _ | exact Kd.Q_nil _ _ _ _ _ | exact Kd.S_nil _ _ _ _ _, by repeat (first | (with_reducible first | exact HB.out | apply below_alloc | apply pw_below_drewN | apply below_drew1) | exact HB.out)⟩
     ·rw [if_neg c5] at H
      have c5b0 : (t117 == 0) = false := beq_eq_false_iff_ne.mpr c5
      have c5b1 : (t117 != 0) = true := bne_iff_ne.mpr c5
      by_cases c6 : 0 ≤ t117
      ·rw [if_pos c6] at H
       have c6b0 := eq_true c6
       have c6b1 : decide (0 ≤ t117) = true := decide_eq_true c6
       clear c6
       by_cases c7 : t117 ≤ (x0_1.size : Int)
       ·rw [if_pos c7] at H
        have c7b0 := eq_true c7
        have c7b1 : decide (t117 ≤ (x0_1.size : Int)) = true := decide_eq_true c7
        clear c7
        by_cases c8 : x4_1.length < 8796093022208
        ·rw [if_pos c8] at H
         have LMc8 := Aside0.mk c8
         clear c8
         obtain ⟨y118, hy118⟩ : ∃ y_ : List ByteArray, y_ = (x4_1 ++ [x0_1.extract 0 (t117 : Int).toNat]) := ⟨_, rfl⟩
         replace H : (spec_Types.l0 k1 (x0_1.extract (t117 : Int).toNat x0_1.size) y118) = some (r1, r2) := by first | (rw [hy118]; with_reducible exact H) | (have H2_ := (Option.bind_some _ _).symm.trans H; rw [hy118]; with_reducible exact H2_) | (have H2_ := (Option.bind_some _ _).symm.trans H; with_reducible exact H2_) | with_reducible exact H | (rw [hy118]; exact H) | exact H
         have Ny118 := Aside0.mk hy118
         clear hy118
         have c9b0 := eq_true (of_decide_eq_true (by first | (with_reducible assumption) | assumption) : 0 ≤ t117)
         have c10b0 := eq_true (of_decide_eq_true (by first | (with_reducible assumption) | assumption) : t117 ≤ (x0_1.size : Int))
         have H' := Aside0.mk H
         clear H
         go_wp2_with (first | ((with_reducible refine gate_callee (f := 43) rfl ?_); refine goesL_ (some 12) rfl rfl Tryd.func43 (by kernel_rfl) rfl #[.string x0_1] rfl (by (try simp only [List.map_toArray, List.map_cons, List.map_nil]); first | done | rfl | (simp only [List.length_drop, List.length_take]; rfl)) ?_; (with_reducible refine (spec_complete.calls k1 x0_1 t117 _ A4.out).mono ?_); rintro e w' ⟨rfl, ⟨nd, rfl⟩⟩; refine ⟨_, rfl, ?_⟩) | ((with_reducible refine gate_builtin (b := .append) (xs := #[.tmp 15, .tmp 19]) rfl ?_); at_builtin; refine Kd.R_append Kd.string (w0 := w) w.heap.size rfl (.tmp 15) (.tmp 19) 63 9 (.string ⟨#[]⟩) 16 rfl Tryd.underlying63 info9 rfl (by decide) (by omega) u4 x4_1 (x0_1.extract 0 (t117 : Int).toNat) [.string (x0_1.extract 0 (t117 : Int).toNat)] (fun _ => True) (fun _ => False) rfl rfl ?aP (fun _ hk => hk.elim) ?aF ?aO ?aB ?aS ?aL ?_; (case aP => exact rfl); (case aB => exact (by repeat (first | (with_reducible first | exact HB.out | apply below_alloc | apply pw_below_drewN | apply below_drew1) | exact HB.out))); (case aF => exact (fun _ _ => trivial)); (case aO => exact (by (with_reducible repeat (first | apply Kd.R_alloc | apply Kd.R_drewN | apply Kd.R_drew)); exact HO_4.out)); (case aS => exact (below_size (by repeat (first | (with_reducible first | exact HB.out | apply below_alloc | apply pw_below_drewN | apply below_drew1) | exact HB.out)))); (case aL => have := LMc8.out; omega); intro v119 w11 ho hb hg hat; rw [← Ny118.out] at ho; have n0_ := Aside0.mk (hb); have n1_ := Aside0.mk (ho); clear HB; clear HO_4; have HB := n0_; have HO120 := n1_; clear n0_ n1_; clear ho hb hg hat))
         go_roundg k1
         case measure => have := HK1.out; omega
         case rel => exact ⟨(x0_1.extract (t117 : Int).toNat x0_1.size), (y118), (by first | rfl | (simp; done) | (simp [*]; done)), H', ⟨by have := HK1.out; omega⟩, ⟨by (with_reducible repeat (first | apply Kd.R_alloc | apply Kd.R_drewN | apply Kd.R_drew)); exact HO120.out⟩, ⟨by repeat (first | (with_reducible first | exact HB.out | apply below_alloc | apply pw_below_drewN | apply below_drew1) | exact HB.out)⟩⟩
        ·rw [if_neg c8] at H
         exact absurd H (by simp)
       ·rw [if_neg c7] at H
        exact absurd H (by simp)
      ·rw [if_neg c6] at H
       exact absurd H (by simp)

/-! ### spec_Valid: function 22 -/
def spec_Valid.f (k : Nat) (a0 : ByteArray) : Option (Bool) := (spec_Types.f k a0).bind fun bt121 => (some bt121.2)
set_option maxHeartbeats 8000000 in
set_option maxRecDepth 100000 in
theorem spec_Valid.calls (k : Nat) (a0 : ByteArray) (r : Bool) (w : World) (h : spec_Valid.f k a0 = some r) :
  Calls Tryd.prog 22 #[.string a0] w fun e w' => e = .returned (.bool r) ∧ Below w.heap.size w w' := by
 have HB := Aside0.mk (Below.refl w.heap.size w)
 have H : ((spec_Types.f k a0).bind fun bt121 => (some bt121.2)) = some r := h
 clear h
 replace H := Option.bind_eq_some_iff.mp H
 obtain ⟨⟨t121, t122⟩, A20, H⟩ := H
 replace H : (some t122) = some r := H
 have A2 := Aside0.mk A20
 clear A20
 obtain rfl := Option.some.inj H
 go_enter Tryd.func22, Tryd.ntmps22
 go_wp2_with (first | ((with_reducible refine gate_callee (f := 29) rfl ?_); refine goesL_ (some 7) rfl rfl Tryd.func29 (by kernel_rfl) rfl #[.string a0] rfl (by (try simp only [List.map_toArray, List.map_cons, List.map_nil]); first | done | rfl | (simp only [List.length_drop, List.length_take]; rfl)) ?_; (with_reducible refine (spec_Types.calls k a0 t121 t122 _ A2.out).mono ?_); rintro e w3 ⟨v123, rfl, ho0, hb⟩; refine ⟨_, rfl, ?_⟩; have n0_ := Aside0.mk (Kd.R_lower ho0 (below_size (by repeat (first | (with_reducible first | exact HB.out | apply below_alloc | apply pw_below_drewN | apply below_drew1) | exact HB.out)))); have n1_ := Aside0.mk (below_step (by repeat (first | (with_reducible first | exact HB.out | apply below_alloc | apply pw_below_drewN | apply below_drew1) | exact HB.out)) hb); clear HB; have HO124 := n0_; have HB := n1_; clear n0_ n1_; (try clear hb); (try clear hb2); (try clear hk); (try clear hi); (try clear ho0)))
 go_ret
 exact ⟨by first | rfl | (simp [errW_none, errW_some] <;> rfl) | (simp [*, errW_none, errW_some] <;> rfl) | (simp (disch := omega) only [wrap64_id] <;> rfl), by repeat (first | (with_reducible first | exact HB.out | apply below_alloc | apply pw_below_drewN | apply below_drew1) | exact HB.out)⟩

/-! ### spec_inRange: function 30 -/
def spec_inRange.f (a0 : Int) (a1 : Int) : Option (Bool) := if a0 = 121 then (some (decide (a1 < 256))) else (if a0 = 98 then (some (decide (a1 < 2))) else (if a0 = 110 then (some ((IntKind.u64.wrap (wrap64 (IntKind.i16.wrap (a1)))) == a1)) else (if a0 = 113 then (some (decide (a1 < 65536))) else (if a0 = 105 then (some ((IntKind.u64.wrap (wrap64 (wrap32 (a1)))) == a1)) else (if a0 = 117 then (some (decide (a1 < 4294967296))) else (if a0 = 104 then (some (decide (a1 < 4294967296))) else (if a0 = 120 then (some true) else (if a0 = 116 then (some true) else (if a0 = 100 then (some true) else (some (a1 == 0)))))))))))
set_option maxHeartbeats 8000000 in
set_option maxRecDepth 100000 in
theorem spec_inRange.calls (a0 : Int) (a1 : Int) (r : Bool) (w : World) (h : spec_inRange.f a0 a1 = some r) :
  Calls Tryd.prog 30 #[.int .u8 a0, .int .u64 a1] w fun e w' => e = .returned (.bool r) ∧ Drawn0 w w' := by
 have H : (if a0 = 121 then (some (decide (a1 < 256))) else (if a0 = 98 then (some (decide (a1 < 2))) else (if a0 = 110 then (some ((IntKind.u64.wrap (wrap64 (IntKind.i16.wrap (a1)))) == a1)) else (if a0 = 113 then (some (decide (a1 < 65536))) else (if a0 = 105 then (some ((IntKind.u64.wrap (wrap64 (wrap32 (a1)))) == a1)) else (if a0 = 117 then (some (decide (a1 < 4294967296))) else (if a0 = 104 then (some (decide (a1 < 4294967296))) else (if a0 = 120 then (some true) else (if a0 = 116 then (some true) else (if a0 = 100 then (some true) else (some (a1 == 0)))))))))))) = some r := h
 clear h
 by_cases c3 : a0 = 121
 ·rw [if_pos c3] at H
  have c3b0 : (a0 == 121) = true := beq_iff_eq.mpr c3
  have c3b1 : (a0 != 121) = false := bne_eq_false_iff_eq.mpr c3
  clear c3
  obtain rfl := Option.some.inj H
  go_enter Tryd.func30, Tryd.ntmps30
  go_wp2
  go_ret
  exact ⟨by first | rfl | (simp; done) | (simp [*]; done), by repeat (first | exact Drawn0.refl _ | apply Drawn0.step)⟩
 ·rw [if_neg c3] at H
  have c3b0 : (a0 == 121) = false := beq_eq_false_iff_ne.mpr c3
  have c3b1 : (a0 != 121) = true := bne_iff_ne.mpr c3
  by_cases c4 : a0 = 98
  ·rw [if_pos c4] at H
   have c4b0 : (a0 == 98) = true := beq_iff_eq.mpr c4
   have c4b1 : (a0 != 98) = false := bne_eq_false_iff_eq.mpr c4
   clear c4
   obtain rfl := Option.some.inj H
   go_enter Tryd.func30, Tryd.ntmps30
   go_wp2
   go_ret
   exact ⟨by first | rfl | (simp; done) | (simp [*]; done), by repeat (first | exact Drawn0.refl _ | apply Drawn0.step)⟩
  ·rw [if_neg c4] at H
   have c4b0 : (a0 == 98) = false := beq_eq_false_iff_ne.mpr c4
   have c4b1 : (a0 != 98) = true := bne_iff_ne.mpr c4
   by_cases c5 : a0 = 110
   ·rw [if_pos c5] at H
    have c5b0 : (a0 == 110) = true := beq_iff_eq.mpr c5
    have c5b1 : (a0 != 110) = false := bne_eq_false_iff_eq.mpr c5
    clear c5
    obtain rfl := Option.some.inj H
    go_enter Tryd.func30, Tryd.ntmps30
    go_wp2
    go_ret
    exact ⟨by first | rfl | (simp; done) | (simp [*]; done), by repeat (first | exact Drawn0.refl _ | apply Drawn0.step)⟩
   ·rw [if_neg c5] at H
    have c5b0 : (a0 == 110) = false := beq_eq_false_iff_ne.mpr c5
    have c5b1 : (a0 != 110) = true := bne_iff_ne.mpr c5
    by_cases c6 : a0 = 113
    ·rw [if_pos c6] at H
     have c6b0 : (a0 == 113) = true := beq_iff_eq.mpr c6
     have c6b1 : (a0 != 113) = false := bne_eq_false_iff_eq.mpr c6
     clear c6
     obtain rfl := Option.some.inj H
     go_enter Tryd.func30, Tryd.ntmps30
     go_wp2
     go_ret
     exact ⟨by first | rfl | (simp; done) | (simp [*]; done), by repeat (first | exact Drawn0.refl _ | apply Drawn0.step)⟩
    ·rw [if_neg c6] at H
     have c6b0 : (a0 == 113) = false := beq_eq_false_iff_ne.mpr c6
     have c6b1 : (a0 != 113) = true := bne_iff_ne.mpr c6
     by_cases c7 : a0 = 105
     ·rw [if_pos c7] at H
      have c7b0 : (a0 == 105) = true := beq_iff_eq.mpr c7
      have c7b1 : (a0 != 105) = false := bne_eq_false_iff_eq.mpr c7
      clear c7
      obtain rfl := Option.some.inj H
      go_enter Tryd.func30, Tryd.ntmps30
      go_wp2
      go_ret
      exact ⟨by first | rfl | (simp; done) | (simp [*]; done), by repeat (first | exact Drawn0.refl _ | apply Drawn0.step)⟩
     ·rw [if_neg c7] at H
      have c7b0 : (a0 == 105) = false := beq_eq_false_iff_ne.mpr c7
      have c7b1 : (a0 != 105) = true := bne_iff_ne.mpr c7
      by_cases c8 : a0 = 117
      ·rw [if_pos c8] at H
       have c8b0 : (a0 == 117) = true := beq_iff_eq.mpr c8
       have c8b1 : (a0 != 117) = false := bne_eq_false_iff_eq.mpr c8
       clear c8
       obtain rfl := Option.some.inj H
       go_enter Tryd.func30, Tryd.ntmps30
       go_wp2
       go_ret
       exact ⟨by first | rfl | (simp; done) | (simp [*]; done), by repeat (first | exact Drawn0.refl _ | apply Drawn0.step)⟩
      ·rw [if_neg c8] at H
       have c8b0 : (a0 == 117) = false := beq_eq_false_iff_ne.mpr c8
       have c8b1 : (a0 != 117) = true := bne_iff_ne.mpr c8
       by_cases c9 : a0 = 104
       ·rw [if_pos c9] at H
        have c9b0 : (a0 == 104) = true := beq_iff_eq.mpr c9
        have c9b1 : (a0 != 104) = false := bne_eq_false_iff_eq.mpr c9
        clear c9
        obtain rfl := Option.some.inj H
        go_enter Tryd.func30, Tryd.ntmps30
        go_wp2
        go_ret
        exact ⟨by first | rfl | (simp; done) | (simp [*]; done), by repeat (first | exact Drawn0.refl _ | apply Drawn0.step)⟩
       ·rw [if_neg c9] at H
        have c9b0 : (a0 == 104) = false := beq_eq_false_iff_ne.mpr c9
        have c9b1 : (a0 != 104) = true := bne_iff_ne.mpr c9
        by_cases c10 : a0 = 120
        ·rw [if_pos c10] at H
         have c10b0 : (a0 == 120) = true := beq_iff_eq.mpr c10
         have c10b1 : (a0 != 120) = false := bne_eq_false_iff_eq.mpr c10
         clear c10
         obtain rfl := Option.some.inj H
         go_enter Tryd.func30, Tryd.ntmps30
         go_wp2
         go_ret
         exact ⟨by first | rfl | (simp; done) | (simp [*]; done), by repeat (first | exact Drawn0.refl _ | apply Drawn0.step)⟩
        ·rw [if_neg c10] at H
         have c10b0 : (a0 == 120) = false := beq_eq_false_iff_ne.mpr c10
         have c10b1 : (a0 != 120) = true := bne_iff_ne.mpr c10
         by_cases c11 : a0 = 116
         ·rw [if_pos c11] at H
          have c11b0 : (a0 == 116) = true := beq_iff_eq.mpr c11
          have c11b1 : (a0 != 116) = false := bne_eq_false_iff_eq.mpr c11
          clear c11
          obtain rfl := Option.some.inj H
          go_enter Tryd.func30, Tryd.ntmps30
          go_wp2
          go_ret
          exact ⟨by first | rfl | (simp; done) | (simp [*]; done), by repeat (first | exact Drawn0.refl _ | apply Drawn0.step)⟩
         ·rw [if_neg c11] at H
          have c11b0 : (a0 == 116) = false := beq_eq_false_iff_ne.mpr c11
          have c11b1 : (a0 != 116) = true := bne_iff_ne.mpr c11
          by_cases c12 : a0 = 100
          ·rw [if_pos c12] at H
           have c12b0 : (a0 == 100) = true := beq_iff_eq.mpr c12
           have c12b1 : (a0 != 100) = false := bne_eq_false_iff_eq.mpr c12
           clear c12
           obtain rfl := Option.some.inj H
           go_enter Tryd.func30, Tryd.ntmps30
           go_wp2
           go_ret
           exact ⟨by first | rfl | (simp; done) | (simp [*]; done), by repeat (first | exact Drawn0.refl _ | apply Drawn0.step)⟩
          ·rw [if_neg c12] at H
           have c12b0 : (a0 == 100) = false := beq_eq_false_iff_ne.mpr c12
           have c12b1 : (a0 != 100) = true := bne_iff_ne.mpr c12
           obtain rfl := Option.some.inj H
           go_enter Tryd.func30, Tryd.ntmps30
           go_wp2
           go_ret
           exact ⟨by first | rfl | (simp; done) | (simp [*]; done), by repeat (first | exact Drawn0.refl _ | apply Drawn0.step)⟩

/-! ### utf8_word_string: function 64 -/
def utf8_word_string.f (a0 : ByteArray) : Option (Int) := if 0 < (a0.size : Int) then (if 1 < (a0.size : Int) then (if 2 < (a0.size : Int) then (if 3 < (a0.size : Int) then (if 4 < (a0.size : Int) then (if 5 < (a0.size : Int) then (if 6 < (a0.size : Int) then (if 7 < (a0.size : Int) then (some (Go.bits .or .u64 (Go.bits .or .u64 (Go.bits .or .u64 (Go.bits .or .u64 (Go.bits .or .u64 (Go.bits .or .u64 (Go.bits .or .u64 (IntKind.u64.wrap (bt a0 0)) (IntKind.u64.wrap ((IntKind.u64.wrap (bt a0 1)) * 256))) (IntKind.u64.wrap ((IntKind.u64.wrap (bt a0 2)) * 65536))) (IntKind.u64.wrap ((IntKind.u64.wrap (bt a0 3)) * 16777216))) (IntKind.u64.wrap ((IntKind.u64.wrap (bt a0 4)) * 4294967296))) (IntKind.u64.wrap ((IntKind.u64.wrap (bt a0 5)) * 1099511627776))) (IntKind.u64.wrap ((IntKind.u64.wrap (bt a0 6)) * 281474976710656))) (IntKind.u64.wrap ((IntKind.u64.wrap (bt a0 7)) * 72057594037927936)))) else (none)) else (none)) else (none)) else (none)) else (none)) else (none)) else (none)) else (none)
set_option maxHeartbeats 8000000 in
set_option maxRecDepth 100000 in
theorem utf8_word_string.calls (a0 : ByteArray) (r : Int) (w : World) (h : utf8_word_string.f a0 = some r) :
  Calls Tryd.prog 64 #[.string a0] w fun e w' => e = .returned (.int .u64 r) ∧ Drawn0 w w' := by
 have H : (if 0 < (a0.size : Int) then (if 1 < (a0.size : Int) then (if 2 < (a0.size : Int) then (if 3 < (a0.size : Int) then (if 4 < (a0.size : Int) then (if 5 < (a0.size : Int) then (if 6 < (a0.size : Int) then (if 7 < (a0.size : Int) then (some (Go.bits .or .u64 (Go.bits .or .u64 (Go.bits .or .u64 (Go.bits .or .u64 (Go.bits .or .u64 (Go.bits .or .u64 (Go.bits .or .u64 (IntKind.u64.wrap (bt a0 0)) (IntKind.u64.wrap ((IntKind.u64.wrap (bt a0 1)) * 256))) (IntKind.u64.wrap ((IntKind.u64.wrap (bt a0 2)) * 65536))) (IntKind.u64.wrap ((IntKind.u64.wrap (bt a0 3)) * 16777216))) (IntKind.u64.wrap ((IntKind.u64.wrap (bt a0 4)) * 4294967296))) (IntKind.u64.wrap ((IntKind.u64.wrap (bt a0 5)) * 1099511627776))) (IntKind.u64.wrap ((IntKind.u64.wrap (bt a0 6)) * 281474976710656))) (IntKind.u64.wrap ((IntKind.u64.wrap (bt a0 7)) * 72057594037927936)))) else (none)) else (none)) else (none)) else (none)) else (none)) else (none)) else (none)) else (none)) = some r := h
 clear h
 by_cases c2 : 0 < (a0.size : Int)
 ·rw [if_pos c2] at H
  have c2b0 : decide (0 < (a0.size : Int)) = true := decide_eq_true c2
  have c2b1 : decide (0 < a0.size) = true := decide_eq_true (by omega)
  clear c2
  by_cases c4 : 1 < (a0.size : Int)
  ·rw [if_pos c4] at H
   have c4b0 : decide (1 < (a0.size : Int)) = true := decide_eq_true c4
   have c4b1 : decide (1 < a0.size) = true := decide_eq_true (by omega)
   clear c4
   by_cases c6 : 2 < (a0.size : Int)
   ·rw [if_pos c6] at H
    have c6b0 : decide (2 < (a0.size : Int)) = true := decide_eq_true c6
    have c6b1 : decide (2 < a0.size) = true := decide_eq_true (by omega)
    clear c6
    by_cases c8 : 3 < (a0.size : Int)
    ·rw [if_pos c8] at H
     have c8b0 : decide (3 < (a0.size : Int)) = true := decide_eq_true c8
     have c8b1 : decide (3 < a0.size) = true := decide_eq_true (by omega)
     clear c8
     by_cases c10 : 4 < (a0.size : Int)
     ·rw [if_pos c10] at H
      have c10b0 : decide (4 < (a0.size : Int)) = true := decide_eq_true c10
      have c10b1 : decide (4 < a0.size) = true := decide_eq_true (by omega)
      clear c10
      by_cases c12 : 5 < (a0.size : Int)
      ·rw [if_pos c12] at H
       have c12b0 : decide (5 < (a0.size : Int)) = true := decide_eq_true c12
       have c12b1 : decide (5 < a0.size) = true := decide_eq_true (by omega)
       clear c12
       by_cases c14 : 6 < (a0.size : Int)
       ·rw [if_pos c14] at H
        have c14b0 : decide (6 < (a0.size : Int)) = true := decide_eq_true c14
        have c14b1 : decide (6 < a0.size) = true := decide_eq_true (by omega)
        clear c14
        by_cases c16 : 7 < (a0.size : Int)
        ·rw [if_pos c16] at H
         have c16b0 : decide (7 < (a0.size : Int)) = true := decide_eq_true c16
         have c16b1 : decide (7 < a0.size) = true := decide_eq_true (by omega)
         clear c16
         obtain rfl := Option.some.inj H
         have p3 : 0 ≤ (0 : Int) := (by omega)
         have q3 : 0 < a0.size := (by have : (0 : Int) < (a0.size : Int) := of_decide_eq_true (by first | (with_reducible assumption) | assumption); omega)
         have hx3 : ∀ h : 0 < a0.size, ((a0[0]'h).toNat : Int) = bt a0 0 := bt_at a0 0
         clear p3
         have qi3 : (0 < (a0.size : Int)) = True := eq_true (of_decide_eq_true (by first | (with_reducible assumption) | assumption))
         replace q3 := eq_true q3
         have p5 : 0 ≤ (1 : Int) := (by omega)
         have q5 : 1 < a0.size := (by have : (1 : Int) < (a0.size : Int) := of_decide_eq_true (by first | (with_reducible assumption) | assumption); omega)
         have hx5 : ∀ h : 1 < a0.size, ((a0[1]'h).toNat : Int) = bt a0 1 := bt_at a0 1
         clear p5
         have qi5 : (1 < (a0.size : Int)) = True := eq_true (of_decide_eq_true (by first | (with_reducible assumption) | assumption))
         replace q5 := eq_true q5
         have p7 : 0 ≤ (2 : Int) := (by omega)
         have q7 : 2 < a0.size := (by have : (2 : Int) < (a0.size : Int) := of_decide_eq_true (by first | (with_reducible assumption) | assumption); omega)
         have hx7 : ∀ h : 2 < a0.size, ((a0[2]'h).toNat : Int) = bt a0 2 := bt_at a0 2
         clear p7
         have qi7 : (2 < (a0.size : Int)) = True := eq_true (of_decide_eq_true (by first | (with_reducible assumption) | assumption))
         replace q7 := eq_true q7
         have p9 : 0 ≤ (3 : Int) := (by omega)
         have q9 : 3 < a0.size := (by have : (3 : Int) < (a0.size : Int) := of_decide_eq_true (by first | (with_reducible assumption) | assumption); omega)
         have hx9 : ∀ h : 3 < a0.size, ((a0[3]'h).toNat : Int) = bt a0 3 := bt_at a0 3
         clear p9
         have qi9 : (3 < (a0.size : Int)) = True := eq_true (of_decide_eq_true (by first | (with_reducible assumption) | assumption))
         replace q9 := eq_true q9
         have p11 : 0 ≤ (4 : Int) := (by omega)
         have q11 : 4 < a0.size := (by have : (4 : Int) < (a0.size : Int) := of_decide_eq_true (by first | (with_reducible assumption) | assumption); omega)
         have hx11 : ∀ h : 4 < a0.size, ((a0[4]'h).toNat : Int) = bt a0 4 := bt_at a0 4
         clear p11
         have qi11 : (4 < (a0.size : Int)) = True := eq_true (of_decide_eq_true (by first | (with_reducible assumption) | assumption))
         replace q11 := eq_true q11
         have p13 : 0 ≤ (5 : Int) := (by omega)
         have q13 : 5 < a0.size := (by have : (5 : Int) < (a0.size : Int) := of_decide_eq_true (by first | (with_reducible assumption) | assumption); omega)
         have hx13 : ∀ h : 5 < a0.size, ((a0[5]'h).toNat : Int) = bt a0 5 := bt_at a0 5
         clear p13
         have qi13 : (5 < (a0.size : Int)) = True := eq_true (of_decide_eq_true (by first | (with_reducible assumption) | assumption))
         replace q13 := eq_true q13
         have p15 : 0 ≤ (6 : Int) := (by omega)
         have q15 : 6 < a0.size := (by have : (6 : Int) < (a0.size : Int) := of_decide_eq_true (by first | (with_reducible assumption) | assumption); omega)
         have hx15 : ∀ h : 6 < a0.size, ((a0[6]'h).toNat : Int) = bt a0 6 := bt_at a0 6
         clear p15
         have qi15 : (6 < (a0.size : Int)) = True := eq_true (of_decide_eq_true (by first | (with_reducible assumption) | assumption))
         replace q15 := eq_true q15
         have p17 : 0 ≤ (7 : Int) := (by omega)
         have q17 : 7 < a0.size := (by have : (7 : Int) < (a0.size : Int) := of_decide_eq_true (by first | (with_reducible assumption) | assumption); omega)
         have hx17 : ∀ h : 7 < a0.size, ((a0[7]'h).toNat : Int) = bt a0 7 := bt_at a0 7
         clear p17
         have qi17 : (7 < (a0.size : Int)) = True := eq_true (of_decide_eq_true (by first | (with_reducible assumption) | assumption))
         replace q17 := eq_true q17
         go_enter Tryd.func64, Tryd.ntmps64
         go_wp2
         repeat (go_quiet (fail); try go_wp2)
         go_ret
         exact ⟨by first | rfl | (simp; done) | (simp [*]; done), by repeat (first | exact Drawn0.refl _ | apply Drawn0.step)⟩
        ·rw [if_neg c16] at H
         exact absurd H (by simp)
       ·rw [if_neg c14] at H
        exact absurd H (by simp)
      ·rw [if_neg c12] at H
       exact absurd H (by simp)
     ·rw [if_neg c10] at H
      exact absurd H (by simp)
    ·rw [if_neg c8] at H
     exact absurd H (by simp)
   ·rw [if_neg c6] at H
    exact absurd H (by simp)
  ·rw [if_neg c4] at H
   exact absurd H (by simp)
 ·rw [if_neg c2] at H
  exact absurd H (by simp)

end Go.Proofs.YtboioihppjhjcaaDoor.MFnSgOf

namespace Go.Proofs.YtboioihppjhjcaaDoor.MFnSgOf
open Go.RowKit Go.Proofs.YtboioihppjhjcaaDoorW.PrintWords Go.Proofs.YtboioihppjhjcaaDoorW.PrintLast Go.Proofs.YtboioihppjhjcaaDoorW.PrintMore
attribute [local go_sem] max2_int min2_int max_two min_two max_three min_three max_four min_four   -- for this text's walks alone
set_option linter.unusedVariables false
set_option linter.unusedSimpArgs false

/-! ### dbus_zzType_Kind: function 47 -/
mutual
def dbus_zzType_Kind.j0 : Nat → Int → Bool → Option (Int)
 | 0, _, _ => none
 | k + 1, x6, x15 => if x15 = true then (some 4) else (if x6 = 117 then (dbus_zzType_Kind.j1 k x6 (x6 == 117)) else (dbus_zzType_Kind.j1 k x6 (x6 == 104)))
def dbus_zzType_Kind.j1 : Nat → Int → Bool → Option (Int)
 | 0, _, _ => none
 | k + 1, x6, x18 => if x18 = true then (some 9) else (if x6 = 120 then (some 5) else (if x6 = 116 then (some 10) else (if x6 = 100 then (some 11) else (if x6 = 115 then (dbus_zzType_Kind.j2 k x6 (x6 == 115)) else (dbus_zzType_Kind.j2 k x6 (x6 == 111))))))
def dbus_zzType_Kind.j2 : Nat → Int → Bool → Option (Int)
 | 0, _, _ => none
 | k + 1, x6, x27 => if x27 = true then (some 17) else (if x6 = 91 then (some 16) else (if x6 = 123 then (some 14) else (if x6 = 42 then (some 13) else (if x6 = 103 then (some 18) else (if x6 = 118 then (some 18) else (if x6 = 40 then (some 18) else (some 0)))))))
end
def dbus_zzType_Kind.f (k : Nat) (a0 : ByteArray) : Option (Int) := if a0.toList = ([] : List UInt8) then (some 0) else (if 0 < (a0.size : Int) then (if (bt a0 0) = 121 then (some 7) else (if (bt a0 0) = 98 then (some 1) else (if (bt a0 0) = 110 then (some 3) else (if (bt a0 0) = 113 then (some 8) else (if (bt a0 0) = 105 then (dbus_zzType_Kind.j0 k (bt a0 0) ((bt a0 0) == 105)) else (dbus_zzType_Kind.j0 k (bt a0 0) ((bt a0 0) == 72))))))) else (none))
set_option maxHeartbeats 8000000 in
set_option maxRecDepth 100000 in
theorem dbus_zzType_Kind.calls (k : Nat) (a0 : ByteArray) (r : Int) (w : World) (h : dbus_zzType_Kind.f k a0 = some r) :
  Calls Tryd.prog 47 #[.string a0] w fun e w' => e = .returned (.int .i64 r) ∧ Drawn0 w w' := by
 have H : (if a0.toList = ([] : List UInt8) then (some 0) else (if 0 < (a0.size : Int) then (if (bt a0 0) = 121 then (some 7) else (if (bt a0 0) = 98 then (some 1) else (if (bt a0 0) = 110 then (some 3) else (if (bt a0 0) = 113 then (some 8) else (if (bt a0 0) = 105 then (dbus_zzType_Kind.j0 k (bt a0 0) ((bt a0 0) == 105)) else (dbus_zzType_Kind.j0 k (bt a0 0) ((bt a0 0) == 72))))))) else (none))) = some r := h
 clear h
 by_cases c2 : a0.toList = ([] : List UInt8)
 ·rw [if_pos c2] at H
  have c2b0 : (a0.toList == ([] : List UInt8)) = true := beq_iff_eq.mpr c2
  have c2b1 : (a0.toList != ([] : List UInt8)) = false := bne_eq_false_iff_eq.mpr c2
  clear c2
  obtain rfl := Option.some.inj H
  go_enter Tryd.func47, Tryd.ntmps47
  go_wp2
  go_ret
  exact ⟨by first | rfl | (simp; done) | (simp [*]; done), by repeat (first | exact Drawn0.refl _ | apply Drawn0.step)⟩
 ·rw [if_neg c2] at H
  have c2b0 : (a0.toList == ([] : List UInt8)) = false := beq_eq_false_iff_ne.mpr c2
  have c2b1 : (a0.toList != ([] : List UInt8)) = true := bne_iff_ne.mpr c2
  by_cases c3 : 0 < (a0.size : Int)
  ·rw [if_pos c3] at H
   have c3b0 : decide (0 < (a0.size : Int)) = true := decide_eq_true c3
   have c3b1 : decide (0 < a0.size) = true := decide_eq_true (by omega)
   clear c3
   by_cases c5 : (bt a0 0) = 121
   ·rw [if_pos c5] at H
    have c5b0 : ((bt a0 0) == 121) = true := beq_iff_eq.mpr c5
    have c5b1 : ((bt a0 0) != 121) = false := bne_eq_false_iff_eq.mpr c5
    clear c5
    obtain rfl := Option.some.inj H
    have p4 : 0 ≤ (0 : Int) := (by omega)
    have q4 : 0 < a0.size := (by have : (0 : Int) < (a0.size : Int) := of_decide_eq_true (by first | (with_reducible assumption) | assumption); omega)
    have hx4 : ∀ h : 0 < a0.size, ((a0[0]'h).toNat : Int) = bt a0 0 := bt_at a0 0
    clear p4
    have qi4 : (0 < (a0.size : Int)) = True := eq_true (of_decide_eq_true (by first | (with_reducible assumption) | assumption))
    replace q4 := eq_true q4
    go_enter Tryd.func47, Tryd.ntmps47
    go_wp2
    go_ret
    exact ⟨by first | rfl | (simp; done) | (simp [*]; done), by repeat (first | exact Drawn0.refl _ | apply Drawn0.step)⟩
   ·rw [if_neg c5] at H
    have c5b0 : ((bt a0 0) == 121) = false := beq_eq_false_iff_ne.mpr c5
    have c5b1 : ((bt a0 0) != 121) = true := bne_iff_ne.mpr c5
    by_cases c6 : (bt a0 0) = 98
    ·rw [if_pos c6] at H
     have c6b0 : ((bt a0 0) == 98) = true := beq_iff_eq.mpr c6
     have c6b1 : ((bt a0 0) != 98) = false := bne_eq_false_iff_eq.mpr c6
     clear c6
     obtain rfl := Option.some.inj H
     have p4 : 0 ≤ (0 : Int) := (by omega)
     have q4 : 0 < a0.size := (by have : (0 : Int) < (a0.size : Int) := of_decide_eq_true (by first | (with_reducible assumption) | assumption); omega)
     have hx4 : ∀ h : 0 < a0.size, ((a0[0]'h).toNat : Int) = bt a0 0 := bt_at a0 0
     clear p4
     have qi4 : (0 < (a0.size : Int)) = True := eq_true (of_decide_eq_true (by first | (with_reducible assumption) | assumption))
     replace q4 := eq_true q4
     go_enter Tryd.func47, Tryd.ntmps47
     go_wp2
     go_ret
     exact ⟨by first | rfl | (simp; done) | (simp [*]; done), by repeat (first | exact Drawn0.refl _ | apply Drawn0.step)⟩
    ·rw [if_neg c6] at H
     have c6b0 : ((bt a0 0) == 98) = false := beq_eq_false_iff_ne.mpr c6
     have c6b1 : ((bt a0 0) != 98) = true := bne_iff_ne.mpr c6
     by_cases c7 : (bt a0 0) = 110
     ·rw [if_pos c7] at H
      have c7b0 : ((bt a0 0) == 110) = true := beq_iff_eq.mpr c7
      have c7b1 : ((bt a0 0) != 110) = false := bne_eq_false_iff_eq.mpr c7
      clear c7
      obtain rfl := Option.some.inj H
      have p4 : 0 ≤ (0 : Int) := (by omega)
      have q4 : 0 < a0.size := (by have : (0 : Int) < (a0.size : Int) := of_decide_eq_true (by first | (with_reducible assumption) | assumption); omega)
      have hx4 : ∀ h : 0 < a0.size, ((a0[0]'h).toNat : Int) = bt a0 0 := bt_at a0 0
      clear p4
      have qi4 : (0 < (a0.size : Int)) = True := eq_true (of_decide_eq_true (by first | (with_reducible assumption) | assumption))
      replace q4 := eq_true q4
      go_enter Tryd.func47, Tryd.ntmps47
      go_wp2
      go_ret
      exact ⟨by first | rfl | (simp; done) | (simp [*]; done), by repeat (first | exact Drawn0.refl _ | apply Drawn0.step)⟩
     ·rw [if_neg c7] at H
      have c7b0 : ((bt a0 0) == 110) = false := beq_eq_false_iff_ne.mpr c7
      have c7b1 : ((bt a0 0) != 110) = true := bne_iff_ne.mpr c7
      by_cases c8 : (bt a0 0) = 113
      ·rw [if_pos c8] at H
       have c8b0 : ((bt a0 0) == 113) = true := beq_iff_eq.mpr c8
       have c8b1 : ((bt a0 0) != 113) = false := bne_eq_false_iff_eq.mpr c8
       clear c8
       obtain rfl := Option.some.inj H
       have p4 : 0 ≤ (0 : Int) := (by omega)
       have q4 : 0 < a0.size := (by have : (0 : Int) < (a0.size : Int) := of_decide_eq_true (by first | (with_reducible assumption) | assumption); omega)
       have hx4 : ∀ h : 0 < a0.size, ((a0[0]'h).toNat : Int) = bt a0 0 := bt_at a0 0
       clear p4
       have qi4 : (0 < (a0.size : Int)) = True := eq_true (of_decide_eq_true (by first | (with_reducible assumption) | assumption))
       replace q4 := eq_true q4
       go_enter Tryd.func47, Tryd.ntmps47
       go_wp2
       go_ret
       exact ⟨by first | rfl | (simp; done) | (simp [*]; done), by repeat (first | exact Drawn0.refl _ | apply Drawn0.step)⟩
      ·rw [if_neg c8] at H
       have c8b0 : ((bt a0 0) == 113) = false := beq_eq_false_iff_ne.mpr c8
       have c8b1 : ((bt a0 0) != 113) = true := bne_iff_ne.mpr c8
       have HC9 := Aside0.mk H
       clear H
       have p4 : 0 ≤ (0 : Int) := (by omega)
       have q4 : 0 < a0.size := (by have : (0 : Int) < (a0.size : Int) := of_decide_eq_true (by first | (with_reducible assumption) | assumption); omega)
       have hx4 : ∀ h : 0 < a0.size, ((a0[0]'h).toNat : Int) = bt a0 0 := bt_at a0 0
       clear p4
       have qi4 : (0 < (a0.size : Int)) = True := eq_true (of_decide_eq_true (by first | (with_reducible assumption) | assumption))
       replace q4 := eq_true q4
       go_enter Tryd.func47, Tryd.ntmps47
       go_upto_if 15 with (fail)
       go_cut [15] (fun v15 wc => ∃ (kq : Nat) (x15_8 : Bool), v15 = .bool x15_8 ∧ Aside0 (dbus_zzType_Kind.j0 kq (bt a0 0) x15_8 = some r) ∧ Aside0 (kq ≤ k) ∧ Drawn0 w wc)
       case first =>
        have H := HC9.out
        clear HC9
        by_cases c10 : (bt a0 0) = 105
        ·rw [if_pos c10] at H
         have c10b0 : ((bt a0 0) == 105) = true := beq_iff_eq.mpr c10
         have c10b1 : ((bt a0 0) != 105) = false := bne_eq_false_iff_eq.mpr c10
         clear c10
         (first | rw [c10b0] | (simp only [i64_w, i32_w]; rw [c10b0]) | skip)
         have H' := Aside0.mk H
         clear H
         go_wp2
         go_meet
         case rel => exact ⟨_, (((bt a0 0) == 105)), (by first | rfl | (simp; done) | (simp [*]; done)), H', ⟨by first | omega | exact Nat.le_refl _⟩, by repeat (first | exact Drawn0.refl _ | apply Drawn0.step)⟩
        ·rw [if_neg c10] at H
         have c10b0 : ((bt a0 0) == 105) = false := beq_eq_false_iff_ne.mpr c10
         have c10b1 : ((bt a0 0) != 105) = true := bne_iff_ne.mpr c10
         (first | rw [c10b0] | (simp only [i64_w, i32_w]; rw [c10b0]) | skip)
         have H' := Aside0.mk H
         clear H
         go_wp2
         go_meet
         case rel => exact ⟨_, (((bt a0 0) == 72)), (by first | rfl | (simp; done) | (simp [*]; done)), H', ⟨by first | omega | exact Nat.le_refl _⟩, by repeat (first | exact Drawn0.refl _ | apply Drawn0.step)⟩
       case rest =>
        clear HC9
        try clear c1
        try clear c2
        try clear c2b0
        try clear c2b1
        try clear p2
        try clear c3
        try clear c3b0
        try clear c3b1
        try clear c4
        try clear p4
        try clear q4
        try clear hx4
        try clear qi4
        try clear c5
        try clear c5b0
        try clear c5b1
        try clear c6
        try clear c6b0
        try clear c6b1
        try clear c7
        try clear c7b0
        try clear c7b1
        try clear c8
        try clear c8b0
        try clear c8b1
        try clear c10
        try clear c10b0
        try clear c10b1
        try clear p4
        try clear q4
        obtain ⟨kq, x15_8, rfl, HA, HJ8, ⟨mc8, rfl⟩⟩ := hcut
        cases kq with
        | zero => exact absurd HA.out (by simp [dbus_zzType_Kind.j0])
        | succ kj8 =>
         have H := HA.out
         clear HA
         simp only [dbus_zzType_Kind.j0] at H
         by_cases c11 : x15_8 = true
         ·subst c11
          have H1 : (some 4) = some r := by rw [if_pos rfl] at H; exact H
          clear H
          have H := H1
          clear H1
          obtain rfl := Option.some.inj H
          go_wp2
          go_ret
          exact ⟨by first | rfl | (simp; done) | (simp [*]; done), by repeat (first | exact Drawn0.refl _ | apply Drawn0.step)⟩
         ·replace c11 := Bool.eq_false_iff.mpr c11
          subst c11
          have H1 : (if (bt a0 0) = 117 then (dbus_zzType_Kind.j1 kj8 (bt a0 0) ((bt a0 0) == 117)) else (dbus_zzType_Kind.j1 kj8 (bt a0 0) ((bt a0 0) == 104))) = some r := by rw [if_neg (show ¬ (false = true) by decide)] at H; exact H
          clear H
          have H := H1
          clear H1
          have HC12 := Aside0.mk H
          clear H
          go_upto_if 18 with (fail)
          go_cut [18] (fun v18 wc => ∃ (kq : Nat) (x18_11 : Bool), v18 = .bool x18_11 ∧ Aside0 (dbus_zzType_Kind.j1 kq (bt a0 0) x18_11 = some r) ∧ Aside0 (kq ≤ kj8) ∧ Drawn0 w wc)
          case first =>
           have H := HC12.out
           clear HC12
           by_cases c13 : (bt a0 0) = 117
           ·rw [if_pos c13] at H
            have c13b0 : ((bt a0 0) == 117) = true := beq_iff_eq.mpr c13
            have c13b1 : ((bt a0 0) != 117) = false := bne_eq_false_iff_eq.mpr c13
            clear c13
            (first | rw [c13b0] | (simp only [i64_w, i32_w]; rw [c13b0]) | skip)
            have H' := Aside0.mk H
            clear H
            go_wp2
            go_meet
            case rel => exact ⟨_, (((bt a0 0) == 117)), (by first | rfl | (simp; done) | (simp [*]; done)), H', ⟨by have := HJ8.out; first | omega | exact Nat.le_refl _⟩, by repeat (first | exact Drawn0.refl _ | apply Drawn0.step)⟩
           ·rw [if_neg c13] at H
            have c13b0 : ((bt a0 0) == 117) = false := beq_eq_false_iff_ne.mpr c13
            have c13b1 : ((bt a0 0) != 117) = true := bne_iff_ne.mpr c13
            (first | rw [c13b0] | (simp only [i64_w, i32_w]; rw [c13b0]) | skip)
            have H' := Aside0.mk H
            clear H
            go_wp2
            go_meet
            case rel => exact ⟨_, (((bt a0 0) == 104)), (by first | rfl | (simp; done) | (simp [*]; done)), H', ⟨by have := HJ8.out; first | omega | exact Nat.le_refl _⟩, by repeat (first | exact Drawn0.refl _ | apply Drawn0.step)⟩
          case rest =>
           clear HC12
           try clear c1
           try clear c2
           try clear c2b0
           try clear c2b1
           try clear p2
           try clear c3
           try clear c3b0
           try clear c3b1
           try clear c4
           try clear p4
           try clear q4
           try clear hx4
           try clear qi4
           try clear c5
           try clear c5b0
           try clear c5b1
           try clear c6
           try clear c6b0
           try clear c6b1
           try clear c7
           try clear c7b0
           try clear c7b1
           try clear c8
           try clear c8b0
           try clear c8b1
           try clear c10
           try clear c10b0
           try clear c10b1
           try clear c11
           try clear c13
           try clear c13b0
           try clear c13b1
           try clear p2
           try clear p4
           try clear q4
           obtain ⟨kq, x18_11, rfl, HA, HJ11, ⟨mc11, rfl⟩⟩ := hcut
           cases kq with
           | zero => exact absurd HA.out (by simp [dbus_zzType_Kind.j1])
           | succ kj11 =>
            have H := HA.out
            clear HA
            simp only [dbus_zzType_Kind.j1] at H
            by_cases c14 : x18_11 = true
            ·subst c14
             have H1 : (some 9) = some r := by rw [if_pos rfl] at H; exact H
             clear H
             have H := H1
             clear H1
             obtain rfl := Option.some.inj H
             go_wp2
             go_ret
             exact ⟨by first | rfl | (simp; done) | (simp [*]; done), by repeat (first | exact Drawn0.refl _ | apply Drawn0.step)⟩
            ·replace c14 := Bool.eq_false_iff.mpr c14
             subst c14
             have H1 : (if (bt a0 0) = 120 then (some 5) else (if (bt a0 0) = 116 then (some 10) else (if (bt a0 0) = 100 then (some 11) else (if (bt a0 0) = 115 then (dbus_zzType_Kind.j2 kj11 (bt a0 0) ((bt a0 0) == 115)) else (dbus_zzType_Kind.j2 kj11 (bt a0 0) ((bt a0 0) == 111)))))) = some r := by rw [if_neg (show ¬ (false = true) by decide)] at H; exact H
             clear H
             have H := H1
             clear H1
             by_cases c15 : (bt a0 0) = 120
             ·rw [if_pos c15] at H
              have c15b0 : ((bt a0 0) == 120) = true := beq_iff_eq.mpr c15
              have c15b1 : ((bt a0 0) != 120) = false := bne_eq_false_iff_eq.mpr c15
              clear c15
              obtain rfl := Option.some.inj H
              go_wp2
              go_ret
              exact ⟨by first | rfl | (simp; done) | (simp [*]; done), by repeat (first | exact Drawn0.refl _ | apply Drawn0.step)⟩
             ·rw [if_neg c15] at H
              have c15b0 : ((bt a0 0) == 120) = false := beq_eq_false_iff_ne.mpr c15
              have c15b1 : ((bt a0 0) != 120) = true := bne_iff_ne.mpr c15
              by_cases c16 : (bt a0 0) = 116
              ·rw [if_pos c16] at H
               have c16b0 : ((bt a0 0) == 116) = true := beq_iff_eq.mpr c16
               have c16b1 : ((bt a0 0) != 116) = false := bne_eq_false_iff_eq.mpr c16
               clear c16
               obtain rfl := Option.some.inj H
               go_wp2
               go_ret
               exact ⟨by first | rfl | (simp; done) | (simp [*]; done), by repeat (first | exact Drawn0.refl _ | apply Drawn0.step)⟩
              ·rw [if_neg c16] at H
               have c16b0 : ((bt a0 0) == 116) = false := beq_eq_false_iff_ne.mpr c16
               have c16b1 : ((bt a0 0) != 116) = true := bne_iff_ne.mpr c16
               by_cases c17 : (bt a0 0) = 100
               ·rw [if_pos c17] at H
                have c17b0 : ((bt a0 0) == 100) = true := beq_iff_eq.mpr c17
                have c17b1 : ((bt a0 0) != 100) = false := bne_eq_false_iff_eq.mpr c17
                clear c17
                obtain rfl := Option.some.inj H
                go_wp2
                go_ret
                exact ⟨by first | rfl | (simp; done) | (simp [*]; done), by repeat (first | exact Drawn0.refl _ | apply Drawn0.step)⟩
               ·rw [if_neg c17] at H
                have c17b0 : ((bt a0 0) == 100) = false := beq_eq_false_iff_ne.mpr c17
                have c17b1 : ((bt a0 0) != 100) = true := bne_iff_ne.mpr c17
                have HC18 := Aside0.mk H
                clear H
                go_upto_if 27 with (fail)
                go_cut [27] (fun v27 wc => ∃ (kq : Nat) (x27_17 : Bool), v27 = .bool x27_17 ∧ Aside0 (dbus_zzType_Kind.j2 kq (bt a0 0) x27_17 = some r) ∧ Aside0 (kq ≤ kj11) ∧ Drawn0 w wc)
                case first =>
                 have H := HC18.out
                 clear HC18
                 by_cases c19 : (bt a0 0) = 115
                 ·rw [if_pos c19] at H
                  have c19b0 : ((bt a0 0) == 115) = true := beq_iff_eq.mpr c19
                  have c19b1 : ((bt a0 0) != 115) = false := bne_eq_false_iff_eq.mpr c19
                  clear c19
                  (first | rw [c19b0] | (simp only [i64_w, i32_w]; rw [c19b0]) | skip)
                  have H' := Aside0.mk H
                  clear H
                  go_wp2
                  go_meet
                  case rel => exact ⟨_, (((bt a0 0) == 115)), (by first | rfl | (simp; done) | (simp [*]; done)), H', ⟨by have := HJ8.out; have := HJ11.out; first | omega | exact Nat.le_refl _⟩, by repeat (first | exact Drawn0.refl _ | apply Drawn0.step)⟩
                 ·rw [if_neg c19] at H
                  have c19b0 : ((bt a0 0) == 115) = false := beq_eq_false_iff_ne.mpr c19
                  have c19b1 : ((bt a0 0) != 115) = true := bne_iff_ne.mpr c19
                  (first | rw [c19b0] | (simp only [i64_w, i32_w]; rw [c19b0]) | skip)
                  have H' := Aside0.mk H
                  clear H
                  go_wp2
                  go_meet
                  case rel => exact ⟨_, (((bt a0 0) == 111)), (by first | rfl | (simp; done) | (simp [*]; done)), H', ⟨by have := HJ8.out; have := HJ11.out; first | omega | exact Nat.le_refl _⟩, by repeat (first | exact Drawn0.refl _ | apply Drawn0.step)⟩
                case rest =>
                 clear HC18
                 try clear c1
                 try clear c2
                 try clear c2b0
                 try clear c2b1
                 try clear p2
                 try clear c3
                 try clear c3b0
                 try clear c3b1
                 try clear c4
                 try clear p4
                 try clear q4
                 try clear hx4
                 try clear qi4
                 try clear c5
                 try clear c5b0
                 try clear c5b1
                 try clear c6
                 try clear c6b0
                 try clear c6b1
                 try clear c7
                 try clear c7b0
                 try clear c7b1
                 try clear c8
                 try clear c8b0
                 try clear c8b1
                 try clear c10
                 try clear c10b0
                 try clear c10b1
                 try clear c11
                 try clear c13
                 try clear c13b0
                 try clear c13b1
                 try clear c14
                 try clear c15
                 try clear c15b0
                 try clear c15b1
                 try clear c16
                 try clear c16b0
                 try clear c16b1
                 try clear c17
                 try clear c17b0
                 try clear c17b1
                 try clear c19
                 try clear c19b0
                 try clear c19b1
                 try clear p2
                 try clear p4
                 try clear q4
                 obtain ⟨kq, x27_17, rfl, HA, HJ17, ⟨mc17, rfl⟩⟩ := hcut
                 cases kq with
                 | zero => exact absurd HA.out (by simp [dbus_zzType_Kind.j2])
                 | succ kj17 =>
                  have H := HA.out
                  clear HA
                  simp only [dbus_zzType_Kind.j2] at H
                  by_cases c20 : x27_17 = true
                  ·subst c20
                   have H1 : (some 17) = some r := by rw [if_pos rfl] at H; exact H
                   clear H
                   have H := H1
                   clear H1
                   obtain rfl := Option.some.inj H
                   go_wp2
                   go_ret
                   exact ⟨by first | rfl | (simp; done) | (simp [*]; done), by repeat (first | exact Drawn0.refl _ | apply Drawn0.step)⟩
                  ·replace c20 := Bool.eq_false_iff.mpr c20
                   subst c20
                   have H1 : (if (bt a0 0) = 91 then (some 16) else (if (bt a0 0) = 123 then (some 14) else (if (bt a0 0) = 42 then (some 13) else (if (bt a0 0) = 103 then (some 18) else (if (bt a0 0) = 118 then (some 18) else (if (bt a0 0) = 40 then (some 18) else (some 0))))))) = some r := by rw [if_neg (show ¬ (false = true) by decide)] at H; exact H
                   clear H
                   have H := H1
                   clear H1
                   by_cases c21 : (bt a0 0) = 91
                   ·rw [if_pos c21] at H
                    have c21b0 : ((bt a0 0) == 91) = true := beq_iff_eq.mpr c21
                    have c21b1 : ((bt a0 0) != 91) = false := bne_eq_false_iff_eq.mpr c21
                    clear c21
                    obtain rfl := Option.some.inj H
                    go_wp2
                    go_ret
                    exact ⟨by first | rfl | (simp; done) | (simp [*]; done), by repeat (first | exact Drawn0.refl _ | apply Drawn0.step)⟩
                   ·rw [if_neg c21] at H
                    have c21b0 : ((bt a0 0) == 91) = false := beq_eq_false_iff_ne.mpr c21
                    have c21b1 : ((bt a0 0) != 91) = true := bne_iff_ne.mpr c21
                    by_cases c22 : (bt a0 0) = 123
                    ·rw [if_pos c22] at H
                     have c22b0 : ((bt a0 0) == 123) = true := beq_iff_eq.mpr c22
                     have c22b1 : ((bt a0 0) != 123) = false := bne_eq_false_iff_eq.mpr c22
                     clear c22
                     obtain rfl := Option.some.inj H
                     go_wp2
                     go_ret
                     exact ⟨by first | rfl | (simp; done) | (simp [*]; done), by repeat (first | exact Drawn0.refl _ | apply Drawn0.step)⟩
                    ·rw [if_neg c22] at H
                     have c22b0 : ((bt a0 0) == 123) = false := beq_eq_false_iff_ne.mpr c22
                     have c22b1 : ((bt a0 0) != 123) = true := bne_iff_ne.mpr c22
                     by_cases c23 : (bt a0 0) = 42
                     ·rw [if_pos c23] at H
                      have c23b0 : ((bt a0 0) == 42) = true := beq_iff_eq.mpr c23
                      have c23b1 : ((bt a0 0) != 42) = false := bne_eq_false_iff_eq.mpr c23
                      clear c23
                      obtain rfl := Option.some.inj H
                      go_wp2
                      go_ret
                      exact ⟨by first | rfl | (simp; done) | (simp [*]; done), by repeat (first | exact Drawn0.refl _ | apply Drawn0.step)⟩
                     ·rw [if_neg c23] at H
                      have c23b0 : ((bt a0 0) == 42) = false := beq_eq_false_iff_ne.mpr c23
                      have c23b1 : ((bt a0 0) != 42) = true := bne_iff_ne.mpr c23
                      by_cases c24 : (bt a0 0) = 103
                      ·rw [if_pos c24] at H
                       have c24b0 : ((bt a0 0) == 103) = true := beq_iff_eq.mpr c24
                       have c24b1 : ((bt a0 0) != 103) = false := bne_eq_false_iff_eq.mpr c24
                       clear c24
                       obtain rfl := Option.some.inj H
                       go_wp2
                       go_ret
                       exact ⟨by first | rfl | (simp; done) | (simp [*]; done), by repeat (first | exact Drawn0.refl _ | apply Drawn0.step)⟩
                      ·rw [if_neg c24] at H
                       have c24b0 : ((bt a0 0) == 103) = false := beq_eq_false_iff_ne.mpr c24
                       have c24b1 : ((bt a0 0) != 103) = true := bne_iff_ne.mpr c24
                       by_cases c25 : (bt a0 0) = 118
                       ·rw [if_pos c25] at H
                        have c25b0 : ((bt a0 0) == 118) = true := beq_iff_eq.mpr c25
                        have c25b1 : ((bt a0 0) != 118) = false := bne_eq_false_iff_eq.mpr c25
                        clear c25
                        obtain rfl := Option.some.inj H
                        go_wp2
                        go_ret
                        exact ⟨by first | rfl | (simp; done) | (simp [*]; done), by repeat (first | exact Drawn0.refl _ | apply Drawn0.step)⟩
                       ·rw [if_neg c25] at H
                        have c25b0 : ((bt a0 0) == 118) = false := beq_eq_false_iff_ne.mpr c25
                        have c25b1 : ((bt a0 0) != 118) = true := bne_iff_ne.mpr c25
                        by_cases c26 : (bt a0 0) = 40
                        ·rw [if_pos c26] at H
                         have c26b0 : ((bt a0 0) == 40) = true := beq_iff_eq.mpr c26
                         have c26b1 : ((bt a0 0) != 40) = false := bne_eq_false_iff_eq.mpr c26
                         clear c26
                         obtain rfl := Option.some.inj H
                         go_wp2
                         go_ret
                         exact ⟨by first | rfl | (simp; done) | (simp [*]; done), by repeat (first | exact Drawn0.refl _ | apply Drawn0.step)⟩
                        ·rw [if_neg c26] at H
                         have c26b0 : ((bt a0 0) == 40) = false := beq_eq_false_iff_ne.mpr c26
                         have c26b1 : ((bt a0 0) != 40) = true := bne_iff_ne.mpr c26
                         obtain rfl := Option.some.inj H
                         go_wp2
                         go_ret
                         exact ⟨by first | rfl | (simp; done) | (simp [*]; done), by repeat (first | exact Drawn0.refl _ | apply Drawn0.step)⟩
  ·rw [if_neg c3] at H
   exact absurd H (by simp)

/-! ### dbus_zzType_Elem: function 48 -/
def dbus_zzType_Elem.f (k : Nat) (a0 : ByteArray) : Option (ByteArray) := (dbus_zzType_Kind.f k a0).bind fun t163 => (if t163 = 14 then (if 2 ≤ (a0.size : Int) then (some (a0.extract 2 a0.size)) else (none)) else (if 1 ≤ (a0.size : Int) then (some (a0.extract 1 a0.size)) else (none)))
set_option maxHeartbeats 8000000 in
set_option maxRecDepth 100000 in
theorem dbus_zzType_Elem.calls (k : Nat) (a0 : ByteArray) (r : ByteArray) (w : World) (h : dbus_zzType_Elem.f k a0 = some r) :
  Calls Tryd.prog 48 #[.string a0] w fun e w' => e = .returned (.string r) ∧ Drawn0 w w' := by
 have H : ((dbus_zzType_Kind.f k a0).bind fun t163 => (if t163 = 14 then (if 2 ≤ (a0.size : Int) then (some (a0.extract 2 a0.size)) else (none)) else (if 1 ≤ (a0.size : Int) then (some (a0.extract 1 a0.size)) else (none)))) = some r := h
 clear h
 replace H := Option.bind_eq_some_iff.mp H
 obtain ⟨t163, A20, H⟩ := H
 replace H : (if t163 = 14 then (if 2 ≤ (a0.size : Int) then (some (a0.extract 2 a0.size)) else (none)) else (if 1 ≤ (a0.size : Int) then (some (a0.extract 1 a0.size)) else (none))) = some r := H
 have A2 := Aside0.mk A20
 clear A20
 by_cases c3 : t163 = 14
 ·rw [if_pos c3] at H
  have c3b0 : (t163 == 14) = true := beq_iff_eq.mpr c3
  have c3b1 : (t163 != 14) = false := bne_eq_false_iff_eq.mpr c3
  clear c3
  by_cases c4 : 2 ≤ (a0.size : Int)
  ·rw [if_pos c4] at H
   have c4b0 := eq_true c4
   have c4b1 : decide (2 ≤ (a0.size : Int)) = true := decide_eq_true c4
   clear c4
   obtain rfl := Option.some.inj H
   go_enter Tryd.func48, Tryd.ntmps48
   go_wp2_with (first | ((with_reducible refine gate_callee (f := 47) rfl ?_); refine goesL_ (some 4) rfl rfl Tryd.func47 (by kernel_rfl) rfl #[.string a0] rfl (by (try simp only [List.map_toArray, List.map_cons, List.map_nil]); first | done | rfl | (simp only [List.length_drop, List.length_take]; rfl)) ?_; (with_reducible refine (dbus_zzType_Kind.calls k a0 t163 _ A2.out).mono ?_); rintro e w' ⟨rfl, ⟨nd, rfl⟩⟩; refine ⟨_, rfl, ?_⟩))
   go_ret
   exact ⟨by first | rfl | (simp; done) | (simp [*]; done), by repeat (first | exact Drawn0.refl _ | apply Drawn0.step)⟩
  ·rw [if_neg c4] at H
   exact absurd H (by simp)
 ·rw [if_neg c3] at H
  have c3b0 : (t163 == 14) = false := beq_eq_false_iff_ne.mpr c3
  have c3b1 : (t163 != 14) = true := bne_iff_ne.mpr c3
  by_cases c5 : 1 ≤ (a0.size : Int)
  ·rw [if_pos c5] at H
   have c5b0 := eq_true c5
   have c5b1 : decide (1 ≤ (a0.size : Int)) = true := decide_eq_true c5
   clear c5
   obtain rfl := Option.some.inj H
   go_enter Tryd.func48, Tryd.ntmps48
   go_wp2_with (first | ((with_reducible refine gate_callee (f := 47) rfl ?_); refine goesL_ (some 4) rfl rfl Tryd.func47 (by kernel_rfl) rfl #[.string a0] rfl (by (try simp only [List.map_toArray, List.map_cons, List.map_nil]); first | done | rfl | (simp only [List.length_drop, List.length_take]; rfl)) ?_; (with_reducible refine (dbus_zzType_Kind.calls k a0 t163 _ A2.out).mono ?_); rintro e w' ⟨rfl, ⟨nd, rfl⟩⟩; refine ⟨_, rfl, ?_⟩))
   go_ret
   exact ⟨by first | rfl | (simp; done) | (simp [*]; done), by repeat (first | exact Drawn0.refl _ | apply Drawn0.step)⟩
  ·rw [if_neg c5] at H
   exact absurd H (by simp)

end Go.Proofs.YtboioihppjhjcaaDoor.MFnSgOf

namespace Go.Proofs.YtboioihppjhjcaaDoor.MFnSgOf
open Go.RowKit Go.Proofs.YtboioihppjhjcaaDoorW.PrintWords Go.Proofs.YtboioihppjhjcaaDoorW.PrintLast Go.Proofs.YtboioihppjhjcaaDoorW.PrintMore
attribute [local go_sem] max2_int min2_int max_two min_two max_three min_three max_four min_four   -- for this text's walks alone
set_option linter.unusedVariables false
set_option linter.unusedSimpArgs false

/-! ### dbus_zzEnd: function 69 -/
mutual
def dbus_zzEnd.l0 : Nat → ByteArray → Int → Option (Int)
 | 0, _, _ => none
 | k + 1, x0, x3 => if x3 < (x0.size : Int) then (if 0 ≤ x3 then (if (bt x0 x3) = 41 then (some (wrap64 (x3 + 1))) else (if x3 ≤ (x0.size : Int) then ((dbus_zzEnd.f k (x0.extract (x3 : Int).toNat x0.size)).bind fun t166 => (dbus_zzEnd.l0 k x0 (wrap64 (x3 + t166)))) else (none))) else (none)) else (some (wrap64 (x3 + 1)))
def dbus_zzEnd.f : Nat → ByteArray → Option (Int)
 | 0, _ => none
 | k + 1, a0 => if a0.toList = ([] : List UInt8) then (some 0) else (if 0 < (a0.size : Int) then (if (bt a0 0) = 91 then (if 1 ≤ (a0.size : Int) then ((dbus_zzEnd.f k (a0.extract 1 a0.size)).bind fun t164 => (some (wrap64 (1 + t164)))) else (none)) else (if (bt a0 0) = 123 then (if 2 ≤ (a0.size : Int) then ((dbus_zzEnd.f k (a0.extract 2 a0.size)).bind fun t165 => (some (wrap64 (2 + t165)))) else (none)) else (if (bt a0 0) = 40 then (dbus_zzEnd.l0 k a0 1) else (some 1)))) else (none))
end
set_option maxHeartbeats 8000000 in
set_option maxRecDepth 100000 in
theorem dbus_zzEnd.calls (k : Nat) : ∀ (a0 : ByteArray) (r : Int) (w : World) (h : dbus_zzEnd.f k a0 = some r),
  Calls Tryd.prog 69 #[.string a0] w fun e w' => e = .returned (.int .i64 r) ∧ Drawn0 w w' := by
 induction k using Nat.strongRecOn with
 | _ k ih =>
 intro a0 r w h
 cases k with
 | zero => exact absurd h (by simp [dbus_zzEnd.f])
 | succ k =>
 simp only [dbus_zzEnd.f] at h
 have H : (if a0.toList = ([] : List UInt8) then (some 0) else (if 0 < (a0.size : Int) then (if (bt a0 0) = 91 then (if 1 ≤ (a0.size : Int) then ((dbus_zzEnd.f k (a0.extract 1 a0.size)).bind fun t164 => (some (wrap64 (1 + t164)))) else (none)) else (if (bt a0 0) = 123 then (if 2 ≤ (a0.size : Int) then ((dbus_zzEnd.f k (a0.extract 2 a0.size)).bind fun t165 => (some (wrap64 (2 + t165)))) else (none)) else (if (bt a0 0) = 40 then (dbus_zzEnd.l0 k a0 1) else (some 1)))) else (none))) = some r := h
 clear h
 by_cases c2 : a0.toList = ([] : List UInt8)
 ·rw [if_pos c2] at H
  have c2b0 : (a0.toList == ([] : List UInt8)) = true := beq_iff_eq.mpr c2
  have c2b1 : (a0.toList != ([] : List UInt8)) = false := bne_eq_false_iff_eq.mpr c2
  clear c2
  obtain rfl := Option.some.inj H
  go_enter Tryd.func69, Tryd.ntmps69
  go_wp2
  go_ret
  exact ⟨by first | rfl | (simp; done) | (simp [*]; done), by repeat (first | exact Drawn0.refl _ | apply Drawn0.step)⟩
 ·rw [if_neg c2] at H
  have c2b0 : (a0.toList == ([] : List UInt8)) = false := beq_eq_false_iff_ne.mpr c2
  have c2b1 : (a0.toList != ([] : List UInt8)) = true := bne_iff_ne.mpr c2
  by_cases c3 : 0 < (a0.size : Int)
  ·rw [if_pos c3] at H
   have c3b0 : decide (0 < (a0.size : Int)) = true := decide_eq_true c3
   have c3b1 : decide (0 < a0.size) = true := decide_eq_true (by omega)
   clear c3
   by_cases c5 : (bt a0 0) = 91
   ·rw [if_pos c5] at H
    have c5b0 : ((bt a0 0) == 91) = true := beq_iff_eq.mpr c5
    have c5b1 : ((bt a0 0) != 91) = false := bne_eq_false_iff_eq.mpr c5
    clear c5
    by_cases c6 : 1 ≤ (a0.size : Int)
    ·rw [if_pos c6] at H
     have c6b0 := eq_true c6
     have c6b1 : decide (1 ≤ (a0.size : Int)) = true := decide_eq_true c6
     clear c6
     replace H := Option.bind_eq_some_iff.mp H
     obtain ⟨t164, A70, H⟩ := H
     replace H : (some (wrap64 (1 + t164))) = some r := H
     have A7 := Aside0.mk A70
     clear A70
     obtain rfl := Option.some.inj H
     have p4 : 0 ≤ (0 : Int) := (by omega)
     have q4 : 0 < a0.size := (by have : (0 : Int) < (a0.size : Int) := of_decide_eq_true (by first | (with_reducible assumption) | assumption); omega)
     have hx4 : ∀ h : 0 < a0.size, ((a0[0]'h).toNat : Int) = bt a0 0 := bt_at a0 0
     clear p4
     have qi4 : (0 < (a0.size : Int)) = True := eq_true (of_decide_eq_true (by first | (with_reducible assumption) | assumption))
     replace q4 := eq_true q4
     go_enter Tryd.func69, Tryd.ntmps69
     go_wp2_with (first | ((with_reducible refine gate_callee (f := 69) rfl ?_); refine goesL_ (some 12) rfl rfl Tryd.func69 (by kernel_rfl) rfl #[.string (a0.extract 1 a0.size)] rfl (by (try simp only [List.map_toArray, List.map_cons, List.map_nil]); first | done | rfl | (simp only [List.length_drop, List.length_take]; rfl)) ?_; (with_reducible refine (ih k (by omega) (a0.extract 1 a0.size) t164 _ A7.out).mono ?_); rintro e w' ⟨rfl, ⟨nd, rfl⟩⟩; refine ⟨_, rfl, ?_⟩))
     go_ret
     exact ⟨by first | rfl | (simp; done) | (simp [*]; done), by repeat (first | exact Drawn0.refl _ | apply Drawn0.step)⟩
    ·rw [if_neg c6] at H
     exact absurd H (by simp)
   ·rw [if_neg c5] at H
    have c5b0 : ((bt a0 0) == 91) = false := beq_eq_false_iff_ne.mpr c5
    have c5b1 : ((bt a0 0) != 91) = true := bne_iff_ne.mpr c5
    by_cases c8 : (bt a0 0) = 123
    ·rw [if_pos c8] at H
     have c8b0 : ((bt a0 0) == 123) = true := beq_iff_eq.mpr c8
     have c8b1 : ((bt a0 0) != 123) = false := bne_eq_false_iff_eq.mpr c8
     clear c8
     by_cases c9 : 2 ≤ (a0.size : Int)
     ·rw [if_pos c9] at H
      have c9b0 := eq_true c9
      have c9b1 : decide (2 ≤ (a0.size : Int)) = true := decide_eq_true c9
      clear c9
      replace H := Option.bind_eq_some_iff.mp H
      obtain ⟨t165, A100, H⟩ := H
      replace H : (some (wrap64 (2 + t165))) = some r := H
      have A10 := Aside0.mk A100
      clear A100
      obtain rfl := Option.some.inj H
      have p4 : 0 ≤ (0 : Int) := (by omega)
      have q4 : 0 < a0.size := (by have : (0 : Int) < (a0.size : Int) := of_decide_eq_true (by first | (with_reducible assumption) | assumption); omega)
      have hx4 : ∀ h : 0 < a0.size, ((a0[0]'h).toNat : Int) = bt a0 0 := bt_at a0 0
      clear p4
      have qi4 : (0 < (a0.size : Int)) = True := eq_true (of_decide_eq_true (by first | (with_reducible assumption) | assumption))
      replace q4 := eq_true q4
      go_enter Tryd.func69, Tryd.ntmps69
      go_wp2_with (first | ((with_reducible refine gate_callee (f := 69) rfl ?_); refine goesL_ (some 18) rfl rfl Tryd.func69 (by kernel_rfl) rfl #[.string (a0.extract 2 a0.size)] rfl (by (try simp only [List.map_toArray, List.map_cons, List.map_nil]); first | done | rfl | (simp only [List.length_drop, List.length_take]; rfl)) ?_; (with_reducible refine (ih k (by omega) (a0.extract 2 a0.size) t165 _ A10.out).mono ?_); rintro e w' ⟨rfl, ⟨nd, rfl⟩⟩; refine ⟨_, rfl, ?_⟩))
      go_ret
      exact ⟨by first | rfl | (simp; done) | (simp [*]; done), by repeat (first | exact Drawn0.refl _ | apply Drawn0.step)⟩
     ·rw [if_neg c9] at H
      exact absurd H (by simp)
    ·rw [if_neg c8] at H
     have c8b0 : ((bt a0 0) == 123) = false := beq_eq_false_iff_ne.mpr c8
     have c8b1 : ((bt a0 0) != 123) = true := bne_iff_ne.mpr c8
     by_cases c11 : (bt a0 0) = 40
     ·rw [if_pos c11] at H
      have c11b0 : ((bt a0 0) == 40) = true := beq_iff_eq.mpr c11
      have c11b1 : ((bt a0 0) != 40) = false := bne_eq_false_iff_eq.mpr c11
      clear c11
      have H' := Aside0.mk H
      clear H
      have p4 : 0 ≤ (0 : Int) := (by omega)
      have q4 : 0 < a0.size := (by have : (0 : Int) < (a0.size : Int) := of_decide_eq_true (by first | (with_reducible assumption) | assumption); omega)
      have hx4 : ∀ h : 0 < a0.size, ((a0[0]'h).toNat : Int) = bt a0 0 := bt_at a0 0
      clear p4
      have qi4 : (0 < (a0.size : Int)) = True := eq_true (of_decide_eq_true (by first | (with_reducible assumption) | assumption))
      replace q4 := eq_true q4
      go_enter Tryd.func69, Tryd.ntmps69
      go_wp2
      go_loopg [3] k (fun kq v3 w' => ∃ (x3_1 : Int), v3 = .int .i64 x3_1 ∧ Aside0 (dbus_zzEnd.l0 kq a0 x3_1 = some r) ∧ Aside0 (kq ≤ k) ∧ Drawn0 w w')
      case atStart => exact ⟨(1), (by first | rfl | (simp; done) | (simp [*]; done)), H', ⟨Nat.le_refl _⟩, by repeat (first | exact Drawn0.refl _ | apply Drawn0.step)⟩
      case round =>
       clear H'
       try clear c1
       try clear c2
       try clear c2b0
       try clear c2b1
       try clear p2
       try clear c3
       try clear c3b0
       try clear c3b1
       try clear p4
       try clear q4
       try clear hx4
       try clear qi4
       try clear c5
       try clear c5b0
       try clear c5b1
       try clear c6
       try clear c6b0
       try clear c6b1
       try clear p6
       try clear c8
       try clear c8b0
       try clear c8b1
       try clear c9
       try clear c9b0
       try clear c9b1
       try clear c11
       try clear c11b0
       try clear c11b1
       try clear p4
       try clear q4
       obtain ⟨x3_1, rfl, HA, HK1, ⟨m1, rfl⟩⟩ := hrel
       cases gk with
       | zero => exact absurd HA.out (by simp [dbus_zzEnd.l0])
       | succ k1 =>
        have H := HA.out
        clear HA
        simp only [dbus_zzEnd.l0] at H
        by_cases c12 : x3_1 < (a0.size : Int)
        ·rw [if_pos c12] at H
         have c12b0 : decide (x3_1 < (a0.size : Int)) = true := decide_eq_true c12
         clear c12
         by_cases c13 : 0 ≤ x3_1
         ·rw [if_pos c13] at H
          have c13b0 : decide (0 ≤ x3_1) = true := decide_eq_true c13
          clear c13
          by_cases c15 : (bt a0 x3_1) = 41
          ·rw [if_pos c15] at H
           have c15b0 : ((bt a0 x3_1) == 41) = true := beq_iff_eq.mpr c15
           have c15b1 : ((bt a0 x3_1) != 41) = false := bne_eq_false_iff_eq.mpr c15
           clear c15
           obtain rfl := Option.some.inj H
           have p14 : 0 ≤ (x3_1 : Int) := of_decide_eq_true (by first | (with_reducible assumption) | assumption)
           have q14 : x3_1 < (a0.size : Int) := of_decide_eq_true (by first | (with_reducible assumption) | assumption)
           have hx14 := bt_at a0 x3_1
           replace p14 := eq_true p14
           replace q14 := eq_true q14
           go_wp2
           go_ret
           exact ⟨by first | rfl | (simp; done) | (simp [*]; done), by repeat (first | exact Drawn0.refl _ | apply Drawn0.step)⟩
          ·rw [if_neg c15] at H
           have c15b0 : ((bt a0 x3_1) == 41) = false := beq_eq_false_iff_ne.mpr c15
           have c15b1 : ((bt a0 x3_1) != 41) = true := bne_iff_ne.mpr c15
           have c16b0 := eq_true (of_decide_eq_true (by first | (with_reducible assumption) | assumption) : 0 ≤ x3_1)
           by_cases c17 : x3_1 ≤ (a0.size : Int)
           ·rw [if_pos c17] at H
            have c17b0 := eq_true c17
            have c17b1 : decide (x3_1 ≤ (a0.size : Int)) = true := decide_eq_true c17
            clear c17
            replace H := Option.bind_eq_some_iff.mp H
            obtain ⟨t166, A180, H⟩ := H
            replace H : (dbus_zzEnd.l0 k1 a0 (wrap64 (x3_1 + t166))) = some r := H
            have A18 := Aside0.mk A180
            clear A180
            have H' := Aside0.mk H
            clear H
            have p14 : 0 ≤ (x3_1 : Int) := of_decide_eq_true (by first | (with_reducible assumption) | assumption)
            have q14 : x3_1 < (a0.size : Int) := of_decide_eq_true (by first | (with_reducible assumption) | assumption)
            have hx14 := bt_at a0 x3_1
            replace p14 := eq_true p14
            replace q14 := eq_true q14
            go_wp2_with (first | ((with_reducible refine gate_callee (f := 69) rfl ?_); refine goesL_ (some 36) rfl rfl Tryd.func69 (by kernel_rfl) rfl #[.string (a0.extract (x3_1 : Int).toNat a0.size)] rfl (by (try simp only [List.map_toArray, List.map_cons, List.map_nil]); first | done | rfl | (simp only [List.length_drop, List.length_take]; rfl)) ?_; (with_reducible refine (ih k1 (by have := HK1.out; omega) (a0.extract (x3_1 : Int).toNat a0.size) t166 _ A18.out).mono ?_); rintro e w' ⟨rfl, ⟨nd, rfl⟩⟩; refine ⟨_, rfl, ?_⟩))
            go_roundg k1
            case measure => have := HK1.out; omega
            case rel => exact ⟨(wrap64 (x3_1 + t166)), (by first | rfl | (simp; done) | (simp [*]; done)), H', ⟨by have := HK1.out; omega⟩, by repeat (first | exact Drawn0.refl _ | apply Drawn0.step)⟩
           ·rw [if_neg c17] at H
            exact absurd H (by simp)
         ·rw [if_neg c13] at H
          exact absurd H (by simp)
        ·rw [if_neg c12] at H
         have c12b0 : decide (x3_1 < (a0.size : Int)) = false := decide_eq_false c12
         clear c12
         obtain rfl := Option.some.inj H
         go_wp2
         go_ret
         exact ⟨by first | rfl | (simp; done) | (simp [*]; done), by repeat (first | exact Drawn0.refl _ | apply Drawn0.step)⟩
     ·rw [if_neg c11] at H
      have c11b0 : ((bt a0 0) == 40) = false := beq_eq_false_iff_ne.mpr c11
      have c11b1 : ((bt a0 0) != 40) = true := bne_iff_ne.mpr c11
      obtain rfl := Option.some.inj H
      have p4 : 0 ≤ (0 : Int) := (by omega)
      have q4 : 0 < a0.size := (by have : (0 : Int) < (a0.size : Int) := of_decide_eq_true (by first | (with_reducible assumption) | assumption); omega)
      have hx4 : ∀ h : 0 < a0.size, ((a0[0]'h).toNat : Int) = bt a0 0 := bt_at a0 0
      clear p4
      have qi4 : (0 < (a0.size : Int)) = True := eq_true (of_decide_eq_true (by first | (with_reducible assumption) | assumption))
      replace q4 := eq_true q4
      go_enter Tryd.func69, Tryd.ntmps69
      go_wp2
      go_ret
      exact ⟨by first | rfl | (simp; done) | (simp [*]; done), by repeat (first | exact Drawn0.refl _ | apply Drawn0.step)⟩
  ·rw [if_neg c3] at H
   exact absurd H (by simp)

/-! ### dbus_zzType_fields: function 65 -/
def dbus_zzType_fields.l0 : Nat → ByteArray → List ByteArray → Int → Option (List ByteArray)
 | 0, _, _, _ => none
 | k + 1, x0, x3, x4 => if x4 < (x0.size : Int) then (if 0 ≤ x4 then (if (bt x0 x4) = 41 then (some x3) else (if x4 ≤ (x0.size : Int) then ((dbus_zzEnd.f k (x0.extract (x4 : Int).toNat x0.size)).bind fun t167 => (if x4 ≤ (wrap64 (x4 + t167)) then (if (wrap64 (x4 + t167)) ≤ (x0.size : Int) then (if x3.length < 8796093022208 then (dbus_zzType_fields.l0 k x0 (x3 ++ [x0.extract (x4 : Int).toNat ((wrap64 (x4 + t167)) : Int).toNat]) (wrap64 (x4 + t167))) else (none)) else (none)) else (none))) else (none))) else (none)) else (some x3)
def dbus_zzType_fields.f (k : Nat) (a0 : ByteArray) : Option (List ByteArray) := dbus_zzType_fields.l0 k a0 ([] : List ByteArray) 1
set_option maxHeartbeats 8000000 in
set_option maxRecDepth 100000 in
theorem dbus_zzType_fields.calls (k : Nat) (a0 : ByteArray) (r : List ByteArray) (w : World) (h : dbus_zzType_fields.f k a0 = some r) :
  Calls Tryd.prog 65 #[.string a0] w fun e w' => ∃ v0_ : Value, e = .returned (v0_) ∧ Kd.R Kd.string 71 w' w.heap.size (fun _ => True) v0_ r ∧ Below w.heap.size w w' := by
 have HB := Aside0.mk (Below.refl w.heap.size w)
 have H : (dbus_zzType_fields.l0 k a0 ([] : List ByteArray) 1) = some r := h
 clear h
 have H' := Aside0.mk H
 clear H
 go_enter Tryd.func65, Tryd.ntmps65
 go_wp2
 go_loopg [3, 4] k (fun kq v3 v4 w' => ∃ (x3_1 : List ByteArray) (x4_1 : Int), v4 = .int .i64 x4_1 ∧ Aside0 (dbus_zzType_fields.l0 kq a0 x3_1 x4_1 = some r) ∧ Aside0 (kq ≤ k) ∧ Aside0 (Kd.R Kd.string 71 w' w.heap.size (fun _ => True) v3 x3_1) ∧ Aside0 (Below w.heap.size w w'))
 case atStart => exact ⟨(([] : List ByteArray)), (1), (by first | rfl | (simp; done) | (simp [*]; done)), H', ⟨Nat.le_refl _⟩, ⟨by first | exact Kd.R_nil _ _ _ _ _ | exact Kd.N_nil _ _ _ _ _ | exact Kd.V_nil _ _ _ _ _ | exact Kd.Q_nil _ _ _ _ _ | exact Kd.S_nil _ _ _ _ _⟩, ⟨by repeat (first | (with_reducible first | exact HB.out | apply below_alloc | apply pw_below_drewN | apply below_drew1) | exact HB.out)⟩⟩
 case round =>
  clear H'
  obtain ⟨x3_1, x4_1, rfl, HA, HK1, HO_3, HB⟩ := hrel
  cases gk with
  | zero => exact absurd HA.out (by simp [dbus_zzType_fields.l0])
  | succ k1 =>
   have H := HA.out
   clear HA
   simp only [dbus_zzType_fields.l0] at H
   by_cases c2 : x4_1 < (a0.size : Int)
   ·rw [if_pos c2] at H
    have c2b0 : decide (x4_1 < (a0.size : Int)) = true := decide_eq_true c2
    clear c2
    by_cases c3 : 0 ≤ x4_1
    ·rw [if_pos c3] at H
     have c3b0 : decide (0 ≤ x4_1) = true := decide_eq_true c3
     clear c3
     by_cases c5 : (bt a0 x4_1) = 41
     ·rw [if_pos c5] at H
      have c5b0 : ((bt a0 x4_1) == 41) = true := beq_iff_eq.mpr c5
      have c5b1 : ((bt a0 x4_1) != 41) = false := bne_eq_false_iff_eq.mpr c5
      clear c5
      obtain rfl := Option.some.inj H
      have p4 : 0 ≤ (x4_1 : Int) := of_decide_eq_true (by first | (with_reducible assumption) | assumption)
      have q4 : x4_1 < (a0.size : Int) := of_decide_eq_true (by first | (with_reducible assumption) | assumption)
      have hx4 := bt_at a0 x4_1
      replace p4 := eq_true p4
      replace q4 := eq_true q4
      go_wp2
      go_ret
      exact ⟨_, by first | rfl | (simp [errW_none, errW_some] <;> rfl) | (simp [*, errW_none, errW_some] <;> rfl) | (simp (disch := omega) only [wrap64_id] <;> rfl), by (with_reducible repeat (first | apply Kd.R_alloc | apply Kd.R_drewN | apply Kd.R_drew)); exact HO_3.out, by repeat (first | (with_reducible first | exact HB.out | apply below_alloc | apply pw_below_drewN | apply below_drew1) | exact HB.out)⟩
     ·rw [if_neg c5] at H
      have c5b0 : ((bt a0 x4_1) == 41) = false := beq_eq_false_iff_ne.mpr c5
      have c5b1 : ((bt a0 x4_1) != 41) = true := bne_iff_ne.mpr c5
      have c6b0 := eq_true (of_decide_eq_true (by first | (with_reducible assumption) | assumption) : 0 ≤ x4_1)
      by_cases c7 : x4_1 ≤ (a0.size : Int)
      ·rw [if_pos c7] at H
       have c7b0 := eq_true c7
       have c7b1 : decide (x4_1 ≤ (a0.size : Int)) = true := decide_eq_true c7
       clear c7
       replace H := Option.bind_eq_some_iff.mp H
       obtain ⟨t167, A80, H⟩ := H
       replace H : (if x4_1 ≤ (wrap64 (x4_1 + t167)) then (if (wrap64 (x4_1 + t167)) ≤ (a0.size : Int) then (if x3_1.length < 8796093022208 then (dbus_zzType_fields.l0 k1 a0 (x3_1 ++ [a0.extract (x4_1 : Int).toNat ((wrap64 (x4_1 + t167)) : Int).toNat]) (wrap64 (x4_1 + t167))) else (none)) else (none)) else (none)) = some r := H
       have A8 := Aside0.mk A80
       clear A80
       have c9b0 := eq_true (of_decide_eq_true (by first | (with_reducible assumption) | assumption) : 0 ≤ x4_1)
       by_cases c10 : x4_1 ≤ (wrap64 (x4_1 + t167))
       ·rw [if_pos c10] at H
        have c10b0 := eq_true c10
        have c10b1 : decide (x4_1 ≤ (wrap64 (x4_1 + t167))) = true := decide_eq_true c10
        by_cases c11 : (wrap64 (x4_1 + t167)) ≤ (a0.size : Int)
        ·rw [if_pos c11] at H
         have c11b0 := eq_true c11
         have c11b1 : decide ((wrap64 (x4_1 + t167)) ≤ (a0.size : Int)) = true := decide_eq_true c11
         by_cases c12 : x3_1.length < 8796093022208
         ·rw [if_pos c12] at H
          have LMc12 := Aside0.mk c12
          clear c12
          obtain ⟨y168, hy168⟩ : ∃ y_ : List ByteArray, y_ = (x3_1 ++ [a0.extract (x4_1 : Int).toNat ((wrap64 (x4_1 + t167)) : Int).toNat]) := ⟨_, rfl⟩
          replace H : (dbus_zzType_fields.l0 k1 a0 y168 (wrap64 (x4_1 + t167))) = some r := by first | (rw [hy168]; with_reducible exact H) | (have H2_ := (Option.bind_some _ _).symm.trans H; rw [hy168]; with_reducible exact H2_) | (have H2_ := (Option.bind_some _ _).symm.trans H; with_reducible exact H2_) | with_reducible exact H | (rw [hy168]; exact H) | exact H
          have Ny168 := Aside0.mk hy168
          clear hy168
          have H' := Aside0.mk H
          clear H
          have p4 : 0 ≤ (x4_1 : Int) := of_decide_eq_true (by first | (with_reducible assumption) | assumption)
          have q4 : x4_1 < (a0.size : Int) := of_decide_eq_true (by first | (with_reducible assumption) | assumption)
          have hx4 := bt_at a0 x4_1
          replace p4 := eq_true p4
          replace q4 := eq_true q4
          go_wp2_with (first | ((with_reducible refine gate_callee (f := 69) rfl ?_); refine goesL_ (some 19) rfl rfl Tryd.func69 (by kernel_rfl) rfl #[.string (a0.extract (x4_1 : Int).toNat a0.size)] rfl (by (try simp only [List.map_toArray, List.map_cons, List.map_nil]); first | done | rfl | (simp only [List.length_drop, List.length_take]; rfl)) ?_; (with_reducible refine (dbus_zzEnd.calls k1 (a0.extract (x4_1 : Int).toNat a0.size) t167 _ A8.out).mono ?_); rintro e w' ⟨rfl, ⟨nd, rfl⟩⟩; refine ⟨_, rfl, ?_⟩) | ((with_reducible refine gate_builtin (b := .append) (xs := #[.tmp 20, .tmp 27]) rfl ?_); at_builtin; refine Kd.R_append Kd.string (w0 := w) w.heap.size rfl (.tmp 20) (.tmp 27) 127 71 (.string ⟨#[]⟩) 16 rfl Tryd.underlying127 info71 rfl (by decide) (by omega) u3 x3_1 (a0.extract (x4_1 : Int).toNat ((wrap64 (x4_1 + t167)) : Int).toNat) [.string (a0.extract (x4_1 : Int).toNat ((wrap64 (x4_1 + t167)) : Int).toNat)] (fun _ => True) (fun _ => False) rfl rfl ?aP (fun _ hk => hk.elim) ?aF ?aO ?aB ?aS ?aL ?_; (case aP => exact rfl); (case aB => exact (by repeat (first | (with_reducible first | exact HB.out | apply below_alloc | apply pw_below_drewN | apply below_drew1) | exact HB.out))); (case aF => exact (fun _ _ => trivial)); (case aO => exact (by (with_reducible repeat (first | apply Kd.R_alloc | apply Kd.R_drewN | apply Kd.R_drew)); exact HO_3.out)); (case aS => exact (below_size (by repeat (first | (with_reducible first | exact HB.out | apply below_alloc | apply pw_below_drewN | apply below_drew1) | exact HB.out)))); (case aL => have := LMc12.out; omega); intro v169 w13 ho hb hg hat; rw [← Ny168.out] at ho; have n0_ := Aside0.mk (hb); have n1_ := Aside0.mk (ho); clear HB; clear HO_3; have HB := n0_; have HO170 := n1_; clear n0_ n1_; clear ho hb hg hat))
          go_roundg k1
          case measure => have := HK1.out; omega
          case rel => exact ⟨(y168), (wrap64 (x4_1 + t167)), (by first | rfl | (simp; done) | (simp [*]; done)), H', ⟨by have := HK1.out; omega⟩, ⟨by (with_reducible repeat (first | apply Kd.R_alloc | apply Kd.R_drewN | apply Kd.R_drew)); exact HO170.out⟩, ⟨by repeat (first | (with_reducible first | exact HB.out | apply below_alloc | apply pw_below_drewN | apply below_drew1) | exact HB.out)⟩⟩
         ·rw [if_neg c12] at H
          exact absurd H (by simp)
        ·rw [if_neg c11] at H
         exact absurd H (by simp)
       ·rw [if_neg c10] at H
        exact absurd H (by simp)
      ·rw [if_neg c7] at H
       exact absurd H (by simp)
    ·rw [if_neg c3] at H
     exact absurd H (by simp)
   ·rw [if_neg c2] at H
    have c2b0 : decide (x4_1 < (a0.size : Int)) = false := decide_eq_false c2
    clear c2
    obtain rfl := Option.some.inj H
    go_wp2
    go_ret
    exact ⟨_, by first | rfl | (simp [errW_none, errW_some] <;> rfl) | (simp [*, errW_none, errW_some] <;> rfl) | (simp (disch := omega) only [wrap64_id] <;> rfl), by (with_reducible repeat (first | apply Kd.R_alloc | apply Kd.R_drewN | apply Kd.R_drew)); exact HO_3.out, by repeat (first | (with_reducible first | exact HB.out | apply below_alloc | apply pw_below_drewN | apply below_drew1) | exact HB.out)⟩

/-! ### dbus_zzType_NumField: function 49 -/
def dbus_zzType_NumField.f (k : Nat) (a0 : ByteArray) : Option (Int) := (dbus_zzType_fields.f k a0).bind fun t171 => (some (t171.length : Int))
set_option maxHeartbeats 8000000 in
set_option maxRecDepth 100000 in
theorem dbus_zzType_NumField.calls (k : Nat) (a0 : ByteArray) (r : Int) (w : World) (h : dbus_zzType_NumField.f k a0 = some r) :
  Calls Tryd.prog 49 #[.string a0] w fun e w' => e = .returned (.int .i64 r) ∧ Below w.heap.size w w' := by
 have HB := Aside0.mk (Below.refl w.heap.size w)
 have H : ((dbus_zzType_fields.f k a0).bind fun t171 => (some (t171.length : Int))) = some r := h
 clear h
 replace H := Option.bind_eq_some_iff.mp H
 obtain ⟨t171, A20, H⟩ := H
 replace H : (some (t171.length : Int)) = some r := H
 have A2 := Aside0.mk A20
 clear A20
 obtain rfl := Option.some.inj H
 go_enter Tryd.func49, Tryd.ntmps49
 go_wp2_with (first | ((with_reducible refine gate_callee (f := 65) rfl ?_); refine goesL_ (some 4) rfl rfl Tryd.func65 (by kernel_rfl) rfl #[.string a0] rfl (by (try simp only [List.map_toArray, List.map_cons, List.map_nil]); first | done | rfl | (simp only [List.length_drop, List.length_take]; rfl)) ?_; (with_reducible refine (dbus_zzType_fields.calls k a0 t171 _ A2.out).mono ?_); rintro e w3 ⟨v172, rfl, ho0, hb⟩; refine ⟨_, rfl, ?_⟩; have n0_ := Aside0.mk (Kd.R_lower ho0 (below_size (by repeat (first | (with_reducible first | exact HB.out | apply below_alloc | apply pw_below_drewN | apply below_drew1) | exact HB.out)))); have n1_ := Aside0.mk (below_step (by repeat (first | (with_reducible first | exact HB.out | apply below_alloc | apply pw_below_drewN | apply below_drew1) | exact HB.out)) hb); clear HB; have HO173 := n0_; have HB := n1_; clear n0_ n1_; (try clear hb); (try clear hb2); (try clear hk); (try clear hi); (try clear ho0); obtain ⟨Ao4, co4, eo4⟩ := Kd.R_slice HO173.out; subst eo4))
 go_ret
 exact ⟨by first | rfl | (simp [errW_none, errW_some] <;> rfl) | (simp [*, errW_none, errW_some] <;> rfl) | (simp (disch := omega) only [wrap64_id] <;> rfl), by repeat (first | (with_reducible first | exact HB.out | apply below_alloc | apply pw_below_drewN | apply below_drew1) | exact HB.out)⟩

/-! ### dbus_zzType_Field: function 50 -/
def dbus_zzType_Field.f (k : Nat) (a0 : ByteArray) (a1 : Int) : Option (ByteArray × ByteArray × ByteArray) := (dbus_zzType_fields.f k a0).bind fun t175 => (if 0 ≤ a1 then (if a1 < (t175.length : Int) then (some (rdOf ByteArray.empty t175 a1, (⟨#[]⟩ : ByteArray), (⟨#[]⟩ : ByteArray))) else (none)) else (none))
set_option maxHeartbeats 8000000 in
set_option maxRecDepth 100000 in
theorem dbus_zzType_Field.calls (k : Nat) (a0 : ByteArray) (a1 : Int) (r1 : ByteArray) (r2 : ByteArray) (r3 : ByteArray) (w : World) (h : dbus_zzType_Field.f k a0 a1 = some (r1, r2, r3)) :
  Calls Tryd.prog 50 #[.string a0, .int .i64 a1] w fun e w' => e = .returned (.agg #[.string r1, .string r2, .string r3]) ∧ Below w.heap.size w w' := by
 have hu84 := Tryd.underlying84
 have HB := Aside0.mk (Below.refl w.heap.size w)
 have H : ((dbus_zzType_fields.f k a0).bind fun t175 => (if 0 ≤ a1 then (if a1 < (t175.length : Int) then (some (rdOf ByteArray.empty t175 a1, (⟨#[]⟩ : ByteArray), (⟨#[]⟩ : ByteArray))) else (none)) else (none))) = some (r1, r2, r3) := h
 clear h
 replace H := Option.bind_eq_some_iff.mp H
 obtain ⟨t175, A30, H⟩ := H
 replace H : (if 0 ≤ a1 then (if a1 < (t175.length : Int) then (some (rdOf ByteArray.empty t175 a1, (⟨#[]⟩ : ByteArray), (⟨#[]⟩ : ByteArray))) else (none)) else (none)) = some (r1, r2, r3) := H
 have A3 := Aside0.mk A30
 clear A30
 by_cases c4 : 0 ≤ a1
 ·rw [if_pos c4] at H
  have c4b0 : decide (0 ≤ a1) = true := decide_eq_true c4
  clear c4
  by_cases c5 : a1 < (t175.length : Int)
  ·rw [if_pos c5] at H
   have c5b0 : decide (a1 < (t175.length : Int)) = true := decide_eq_true c5
   clear c5
   simp only [Option.some.injEq, Prod.mk.injEq] at H
   obtain ⟨rfl, rfl, rfl⟩ := H
   go_enter Tryd.func50, Tryd.ntmps50
   go_wp2_with (first | ((with_reducible refine gate_dst (N := 4) rfl ?_); refine box_event ?hg (N := 4) ?hd (cs := #[.string (⟨#[]⟩ : ByteArray), .string (⟨#[]⟩ : ByteArray), .string (⟨#[]⟩ : ByteArray)]) (t := 84) ?hr ?_; (case hd => rfl); (case hg => rfl); (case hr => first | (go_simp; done) | (go_simp; rfl)); intro gb174 hg w6 hbox hb; have n0_ := Aside0.mk (below_step (by repeat (first | (with_reducible first | exact HB.out | apply below_alloc | apply pw_below_drewN | apply below_drew1) | exact HB.out)) hb); have n1_ := Aside0.mk (hbox); have n2_ := Aside0.mk ((by rw [hg]; exact (below_size (by repeat (first | (with_reducible first | exact HB.out | apply below_alloc | apply pw_below_drewN | apply below_drew1) | exact HB.out))) : w.heap.size ≤ gb174)); have n3_ := Aside0.mk ((by rw [hg]; exact (below_size (by repeat (first | (with_reducible first | exact HB.out | apply below_alloc | apply pw_below_drewN | apply below_drew1) | exact HB.out))) : w.heap.size ≤ gb174)); clear HB; have HB := n0_; have BK174 := n1_; have GW174 := n2_; have GE174 := n3_; clear n0_ n1_ n2_ n3_; clear hb hbox hg) | ((with_reducible refine gate_callee (f := 65) rfl ?_); refine goesL_ (some 6) rfl rfl Tryd.func65 (by kernel_rfl) rfl #[.string a0] rfl (by (try simp only [List.map_toArray, List.map_cons, List.map_nil]); first | done | rfl | (simp only [List.length_drop, List.length_take]; rfl)) ?_; (with_reducible refine (dbus_zzType_fields.calls k a0 t175 _ A3.out).mono ?_); rintro e w7 ⟨v176, rfl, ho0, hb⟩; refine ⟨_, rfl, ?_⟩; have n0_ := Aside0.mk (Kd.R_lower ho0 (below_size (by repeat (first | (with_reducible first | exact HB.out | apply below_alloc | apply pw_below_drewN | apply below_drew1 | refine below_set ?_ GE174.out) | exact HB.out)))); have n1_ := Aside0.mk (blk_below (g := gb174) (o := .cells #[.string (⟨#[]⟩ : ByteArray), .string (⟨#[]⟩ : ByteArray), .string (⟨#[]⟩ : ByteArray)] 84 (0, 0)) (by (with_reducible repeat (first | refine blk_drewN ?_ _ | refine blk_drew ?_ | refine blk_alloc ?_ _)); exact BK174.out) hb); have n2_ := Aside0.mk (below_step (by repeat (first | (with_reducible first | exact HB.out | apply below_alloc | apply pw_below_drewN | apply below_drew1 | refine below_set ?_ GE174.out) | exact HB.out)) hb); clear BK174; clear HB; have HO177 := n0_; have BK174 := n1_; have HB := n2_; clear n0_ n1_ n2_; (try clear hb); (try clear hb2); (try clear hk); (try clear hi); (try clear ho0); obtain ⟨Ao8, co8, eo8⟩ := Kd.R_slice HO177.out; subst eo8; have p178 : 0 ≤ (a1 : Int) := of_decide_eq_true (by first | (with_reducible assumption) | assumption); have q178 : a1 < (t175.length : Int) := of_decide_eq_true (by first | (with_reducible assumption) | assumption); obtain ⟨ad178, e178, hx178_0⟩ := Kd.at_string (Kd.R_reads' HO177.out).2.2 a1 p178 q178; cases e178; replace p178 := eq_true p178; replace q178 := eq_true q178; have hcz9_0 : w7.cell? ⟨gb174, 0, none⟩ = some (.string (⟨#[]⟩ : ByteArray)) := (blk_cell BK174.out 0).trans rfl; have hcz9_1 : w7.cell? ⟨gb174, 1, none⟩ = some (.string (⟨#[]⟩ : ByteArray)) := (blk_cell BK174.out 1).trans rfl; have hcz9_2 : w7.cell? ⟨gb174, 2, none⟩ = some (.string (⟨#[]⟩ : ByteArray)) := (blk_cell BK174.out 2).trans rfl; have hfz9_0 := blk_frozen BK174.out 0; have hfz9_1 := blk_frozen BK174.out 1; have hfz9_2 := blk_frozen BK174.out 2))
   refine bodyPost_ret (results_cell_row rfl _ _ gb174 84 #[.string (rdOf ByteArray.empty t175 a1), .string (⟨#[]⟩ : ByteArray), .string (⟨#[]⟩ : ByteArray)] (0, 0) _ rfl (by (with_reducible repeat (first | refine blk_drewN ?_ _ | refine blk_drew ?_ | refine blk_alloc ?_ _)); refine blk_put (cs := #[.string (rdOf ByteArray.empty t175 a1), .string (⟨#[]⟩ : ByteArray), .string (⟨#[]⟩ : ByteArray)]) ?_ 2 _ rfl; (with_reducible repeat (first | refine blk_drewN ?_ _ | refine blk_drew ?_ | refine blk_alloc ?_ _)); refine blk_put (cs := #[.string (rdOf ByteArray.empty t175 a1), .string (⟨#[]⟩ : ByteArray), .string (⟨#[]⟩ : ByteArray)]) ?_ 1 _ rfl; (with_reducible repeat (first | refine blk_drewN ?_ _ | refine blk_drew ?_ | refine blk_alloc ?_ _)); refine blk_put (cs := #[.string (⟨#[]⟩ : ByteArray), .string (⟨#[]⟩ : ByteArray), .string (⟨#[]⟩ : ByteArray)]) ?_ 0 _ rfl; (with_reducible repeat (first | refine blk_drewN ?_ _ | refine blk_drew ?_ | refine blk_alloc ?_ _)); exact BK174.out) Tryd.underlying84 rfl (by kernel_rfl)) rfl ?_
   exact ⟨by first | rfl | (simp [errW_none, errW_some] <;> rfl) | (simp [*, errW_none, errW_some] <;> rfl) | (simp (disch := omega) only [wrap64_id] <;> rfl), by repeat (first | (with_reducible first | exact HB.out | apply below_alloc | apply pw_below_drewN | apply below_drew1 | refine below_set ?_ GE174.out) | exact HB.out)⟩
  ·rw [if_neg c5] at H
   exact absurd H (by simp)
 ·rw [if_neg c4] at H
  exact absurd H (by simp)

/-! ### dbus_zzTag_Get: function 51 -/
def dbus_zzTag_Get.f (a0 : ByteArray) (a1 : ByteArray) : Option (ByteArray) := some (⟨#[]⟩ : ByteArray)
set_option maxHeartbeats 8000000 in
set_option maxRecDepth 100000 in
theorem dbus_zzTag_Get.calls (a0 : ByteArray) (a1 : ByteArray) (r : ByteArray) (w : World) (h : dbus_zzTag_Get.f a0 a1 = some r) :
  Calls Tryd.prog 51 #[.string a0, .string a1] w fun e w' => e = .returned (.string r) ∧ Drawn0 w w' := by
 have H : (some (⟨#[]⟩ : ByteArray)) = some r := h
 clear h
 obtain rfl := Option.some.inj H
 go_enter Tryd.func51, Tryd.ntmps51
 go_wp2
 go_ret
 exact ⟨by first | rfl | (simp; done) | (simp [*]; done), by repeat (first | exact Drawn0.refl _ | apply Drawn0.step)⟩

/-! ### dbus_isKeyType: function 52 -/
def dbus_isKeyType.f (k : Nat) (a0 : ByteArray) : Option (Bool) := (dbus_zzType_Kind.f k a0).bind fun t179 => (if t179 = 7 then (some true) else (if t179 = 8 then (some true) else (if t179 = 9 then (some true) else (if t179 = 10 then (some true) else (if t179 = 3 then (some true) else (if t179 = 4 then (some true) else (if t179 = 5 then (some true) else (if t179 = 11 then (some true) else (if t179 = 17 then (some true) else (if t179 = 6 then (some true) else (if t179 = 2 then (some true) else (some false))))))))))))
set_option maxHeartbeats 8000000 in
set_option maxRecDepth 100000 in
theorem dbus_isKeyType.calls (k : Nat) (a0 : ByteArray) (r : Bool) (w : World) (h : dbus_isKeyType.f k a0 = some r) :
  Calls Tryd.prog 52 #[.string a0] w fun e w' => e = .returned (.bool r) ∧ Drawn0 w w' := by
 have H : ((dbus_zzType_Kind.f k a0).bind fun t179 => (if t179 = 7 then (some true) else (if t179 = 8 then (some true) else (if t179 = 9 then (some true) else (if t179 = 10 then (some true) else (if t179 = 3 then (some true) else (if t179 = 4 then (some true) else (if t179 = 5 then (some true) else (if t179 = 11 then (some true) else (if t179 = 17 then (some true) else (if t179 = 6 then (some true) else (if t179 = 2 then (some true) else (some false))))))))))))) = some r := h
 clear h
 replace H := Option.bind_eq_some_iff.mp H
 obtain ⟨t179, A20, H⟩ := H
 replace H : (if t179 = 7 then (some true) else (if t179 = 8 then (some true) else (if t179 = 9 then (some true) else (if t179 = 10 then (some true) else (if t179 = 3 then (some true) else (if t179 = 4 then (some true) else (if t179 = 5 then (some true) else (if t179 = 11 then (some true) else (if t179 = 17 then (some true) else (if t179 = 6 then (some true) else (if t179 = 2 then (some true) else (some false)))))))))))) = some r := H
 have A2 := Aside0.mk A20
 clear A20
 by_cases c3 : t179 = 7
 ·rw [if_pos c3] at H
  have c3b0 : (t179 == 7) = true := beq_iff_eq.mpr c3
  have c3b1 : (t179 != 7) = false := bne_eq_false_iff_eq.mpr c3
  clear c3
  obtain rfl := Option.some.inj H
  go_enter Tryd.func52, Tryd.ntmps52
  go_wp2_with (first | ((with_reducible refine gate_callee (f := 47) rfl ?_); refine goesL_ (some 4) rfl rfl Tryd.func47 (by kernel_rfl) rfl #[.string a0] rfl (by (try simp only [List.map_toArray, List.map_cons, List.map_nil]); first | done | rfl | (simp only [List.length_drop, List.length_take]; rfl)) ?_; (with_reducible refine (dbus_zzType_Kind.calls k a0 t179 _ A2.out).mono ?_); rintro e w' ⟨rfl, ⟨nd, rfl⟩⟩; refine ⟨_, rfl, ?_⟩))
  go_ret
  exact ⟨by first | rfl | (simp; done) | (simp [*]; done), by repeat (first | exact Drawn0.refl _ | apply Drawn0.step)⟩
 ·rw [if_neg c3] at H
  have c3b0 : (t179 == 7) = false := beq_eq_false_iff_ne.mpr c3
  have c3b1 : (t179 != 7) = true := bne_iff_ne.mpr c3
  by_cases c4 : t179 = 8
  ·rw [if_pos c4] at H
   have c4b0 : (t179 == 8) = true := beq_iff_eq.mpr c4
   have c4b1 : (t179 != 8) = false := bne_eq_false_iff_eq.mpr c4
   clear c4
   obtain rfl := Option.some.inj H
   go_enter Tryd.func52, Tryd.ntmps52
   go_wp2_with (first | ((with_reducible refine gate_callee (f := 47) rfl ?_); refine goesL_ (some 4) rfl rfl Tryd.func47 (by kernel_rfl) rfl #[.string a0] rfl (by (try simp only [List.map_toArray, List.map_cons, List.map_nil]); first | done | rfl | (simp only [List.length_drop, List.length_take]; rfl)) ?_; (with_reducible refine (dbus_zzType_Kind.calls k a0 t179 _ A2.out).mono ?_); rintro e w' ⟨rfl, ⟨nd, rfl⟩⟩; refine ⟨_, rfl, ?_⟩))
   go_ret
   exact ⟨by first | rfl | (simp; done) | (simp [*]; done), by repeat (first | exact Drawn0.refl _ | apply Drawn0.step)⟩
  ·rw [if_neg c4] at H
   have c4b0 : (t179 == 8) = false := beq_eq_false_iff_ne.mpr c4
   have c4b1 : (t179 != 8) = true := bne_iff_ne.mpr c4
   by_cases c5 : t179 = 9
   ·rw [if_pos c5] at H
    have c5b0 : (t179 == 9) = true := beq_iff_eq.mpr c5
    have c5b1 : (t179 != 9) = false := bne_eq_false_iff_eq.mpr c5
    clear c5
    obtain rfl := Option.some.inj H
    go_enter Tryd.func52, Tryd.ntmps52
    go_wp2_with (first | ((with_reducible refine gate_callee (f := 47) rfl ?_); refine goesL_ (some 4) rfl rfl Tryd.func47 (by kernel_rfl) rfl #[.string a0] rfl (by (try simp only [List.map_toArray, List.map_cons, List.map_nil]); first | done | rfl | (simp only [List.length_drop, List.length_take]; rfl)) ?_; (with_reducible refine (dbus_zzType_Kind.calls k a0 t179 _ A2.out).mono ?_); rintro e w' ⟨rfl, ⟨nd, rfl⟩⟩; refine ⟨_, rfl, ?_⟩))
    go_ret
    exact ⟨by first | rfl | (simp; done) | (simp [*]; done), by repeat (first | exact Drawn0.refl _ | apply Drawn0.step)⟩
   ·rw [if_neg c5] at H
    have c5b0 : (t179 == 9) = false := beq_eq_false_iff_ne.mpr c5
    have c5b1 : (t179 != 9) = true := bne_iff_ne.mpr c5
    by_cases c6 : t179 = 10
    ·rw [if_pos c6] at H
     have c6b0 : (t179 == 10) = true := beq_iff_eq.mpr c6
     have c6b1 : (t179 != 10) = false := bne_eq_false_iff_eq.mpr c6
     clear c6
     obtain rfl := Option.some.inj H
     go_enter Tryd.func52, Tryd.ntmps52
     go_wp2_with (first | ((with_reducible refine gate_callee (f := 47) rfl ?_); refine goesL_ (some 4) rfl rfl Tryd.func47 (by kernel_rfl) rfl #[.string a0] rfl (by (try simp only [List.map_toArray, List.map_cons, List.map_nil]); first | done | rfl | (simp only [List.length_drop, List.length_take]; rfl)) ?_; (with_reducible refine (dbus_zzType_Kind.calls k a0 t179 _ A2.out).mono ?_); rintro e w' ⟨rfl, ⟨nd, rfl⟩⟩; refine ⟨_, rfl, ?_⟩))
     go_ret
     exact ⟨by first | rfl | (simp; done) | (simp [*]; done), by repeat (first | exact Drawn0.refl _ | apply Drawn0.step)⟩
    ·rw [if_neg c6] at H
     have c6b0 : (t179 == 10) = false := beq_eq_false_iff_ne.mpr c6
     have c6b1 : (t179 != 10) = true := bne_iff_ne.mpr c6
     by_cases c7 : t179 = 3
     ·rw [if_pos c7] at H
      have c7b0 : (t179 == 3) = true := beq_iff_eq.mpr c7
      have c7b1 : (t179 != 3) = false := bne_eq_false_iff_eq.mpr c7
      clear c7
      obtain rfl := Option.some.inj H
      go_enter Tryd.func52, Tryd.ntmps52
      go_wp2_with (first | ((with_reducible refine gate_callee (f := 47) rfl ?_); refine goesL_ (some 4) rfl rfl Tryd.func47 (by kernel_rfl) rfl #[.string a0] rfl (by (try simp only [List.map_toArray, List.map_cons, List.map_nil]); first | done | rfl | (simp only [List.length_drop, List.length_take]; rfl)) ?_; (with_reducible refine (dbus_zzType_Kind.calls k a0 t179 _ A2.out).mono ?_); rintro e w' ⟨rfl, ⟨nd, rfl⟩⟩; refine ⟨_, rfl, ?_⟩))
      go_ret
      exact ⟨by first | rfl | (simp; done) | (simp [*]; done), by repeat (first | exact Drawn0.refl _ | apply Drawn0.step)⟩
     ·rw [if_neg c7] at H
      have c7b0 : (t179 == 3) = false := beq_eq_false_iff_ne.mpr c7
      have c7b1 : (t179 != 3) = true := bne_iff_ne.mpr c7
      by_cases c8 : t179 = 4
      ·rw [if_pos c8] at H
       have c8b0 : (t179 == 4) = true := beq_iff_eq.mpr c8
       have c8b1 : (t179 != 4) = false := bne_eq_false_iff_eq.mpr c8
       clear c8
       obtain rfl := Option.some.inj H
       go_enter Tryd.func52, Tryd.ntmps52
       go_wp2_with (first | ((with_reducible refine gate_callee (f := 47) rfl ?_); refine goesL_ (some 4) rfl rfl Tryd.func47 (by kernel_rfl) rfl #[.string a0] rfl (by (try simp only [List.map_toArray, List.map_cons, List.map_nil]); first | done | rfl | (simp only [List.length_drop, List.length_take]; rfl)) ?_; (with_reducible refine (dbus_zzType_Kind.calls k a0 t179 _ A2.out).mono ?_); rintro e w' ⟨rfl, ⟨nd, rfl⟩⟩; refine ⟨_, rfl, ?_⟩))
       go_ret
       exact ⟨by first | rfl | (simp; done) | (simp [*]; done), by repeat (first | exact Drawn0.refl _ | apply Drawn0.step)⟩
      ·rw [if_neg c8] at H
       have c8b0 : (t179 == 4) = false := beq_eq_false_iff_ne.mpr c8
       have c8b1 : (t179 != 4) = true := bne_iff_ne.mpr c8
       by_cases c9 : t179 = 5
       ·rw [if_pos c9] at H
        have c9b0 : (t179 == 5) = true := beq_iff_eq.mpr c9
        have c9b1 : (t179 != 5) = false := bne_eq_false_iff_eq.mpr c9
        clear c9
        obtain rfl := Option.some.inj H
        go_enter Tryd.func52, Tryd.ntmps52
        go_wp2_with (first | ((with_reducible refine gate_callee (f := 47) rfl ?_); refine goesL_ (some 4) rfl rfl Tryd.func47 (by kernel_rfl) rfl #[.string a0] rfl (by (try simp only [List.map_toArray, List.map_cons, List.map_nil]); first | done | rfl | (simp only [List.length_drop, List.length_take]; rfl)) ?_; (with_reducible refine (dbus_zzType_Kind.calls k a0 t179 _ A2.out).mono ?_); rintro e w' ⟨rfl, ⟨nd, rfl⟩⟩; refine ⟨_, rfl, ?_⟩))
        go_ret
        exact ⟨by first | rfl | (simp; done) | (simp [*]; done), by repeat (first | exact Drawn0.refl _ | apply Drawn0.step)⟩
       ·rw [if_neg c9] at H
        have c9b0 : (t179 == 5) = false := beq_eq_false_iff_ne.mpr c9
        have c9b1 : (t179 != 5) = true := bne_iff_ne.mpr c9
        by_cases c10 : t179 = 11
        ·rw [if_pos c10] at H
         have c10b0 : (t179 == 11) = true := beq_iff_eq.mpr c10
         have c10b1 : (t179 != 11) = false := bne_eq_false_iff_eq.mpr c10
         clear c10
         obtain rfl := Option.some.inj H
         go_enter Tryd.func52, Tryd.ntmps52
         go_wp2_with (first | ((with_reducible refine gate_callee (f := 47) rfl ?_); refine goesL_ (some 4) rfl rfl Tryd.func47 (by kernel_rfl) rfl #[.string a0] rfl (by (try simp only [List.map_toArray, List.map_cons, List.map_nil]); first | done | rfl | (simp only [List.length_drop, List.length_take]; rfl)) ?_; (with_reducible refine (dbus_zzType_Kind.calls k a0 t179 _ A2.out).mono ?_); rintro e w' ⟨rfl, ⟨nd, rfl⟩⟩; refine ⟨_, rfl, ?_⟩))
         go_ret
         exact ⟨by first | rfl | (simp; done) | (simp [*]; done), by repeat (first | exact Drawn0.refl _ | apply Drawn0.step)⟩
        ·rw [if_neg c10] at H
         have c10b0 : (t179 == 11) = false := beq_eq_false_iff_ne.mpr c10
         have c10b1 : (t179 != 11) = true := bne_iff_ne.mpr c10
         by_cases c11 : t179 = 17
         ·rw [if_pos c11] at H
          have c11b0 : (t179 == 17) = true := beq_iff_eq.mpr c11
          have c11b1 : (t179 != 17) = false := bne_eq_false_iff_eq.mpr c11
          clear c11
          obtain rfl := Option.some.inj H
          go_enter Tryd.func52, Tryd.ntmps52
          go_wp2_with (first | ((with_reducible refine gate_callee (f := 47) rfl ?_); refine goesL_ (some 4) rfl rfl Tryd.func47 (by kernel_rfl) rfl #[.string a0] rfl (by (try simp only [List.map_toArray, List.map_cons, List.map_nil]); first | done | rfl | (simp only [List.length_drop, List.length_take]; rfl)) ?_; (with_reducible refine (dbus_zzType_Kind.calls k a0 t179 _ A2.out).mono ?_); rintro e w' ⟨rfl, ⟨nd, rfl⟩⟩; refine ⟨_, rfl, ?_⟩))
          go_ret
          exact ⟨by first | rfl | (simp; done) | (simp [*]; done), by repeat (first | exact Drawn0.refl _ | apply Drawn0.step)⟩
         ·rw [if_neg c11] at H
          have c11b0 : (t179 == 17) = false := beq_eq_false_iff_ne.mpr c11
          have c11b1 : (t179 != 17) = true := bne_iff_ne.mpr c11
          by_cases c12 : t179 = 6
          ·rw [if_pos c12] at H
           have c12b0 : (t179 == 6) = true := beq_iff_eq.mpr c12
           have c12b1 : (t179 != 6) = false := bne_eq_false_iff_eq.mpr c12
           clear c12
           obtain rfl := Option.some.inj H
           go_enter Tryd.func52, Tryd.ntmps52
           go_wp2_with (first | ((with_reducible refine gate_callee (f := 47) rfl ?_); refine goesL_ (some 4) rfl rfl Tryd.func47 (by kernel_rfl) rfl #[.string a0] rfl (by (try simp only [List.map_toArray, List.map_cons, List.map_nil]); first | done | rfl | (simp only [List.length_drop, List.length_take]; rfl)) ?_; (with_reducible refine (dbus_zzType_Kind.calls k a0 t179 _ A2.out).mono ?_); rintro e w' ⟨rfl, ⟨nd, rfl⟩⟩; refine ⟨_, rfl, ?_⟩))
           go_ret
           exact ⟨by first | rfl | (simp; done) | (simp [*]; done), by repeat (first | exact Drawn0.refl _ | apply Drawn0.step)⟩
          ·rw [if_neg c12] at H
           have c12b0 : (t179 == 6) = false := beq_eq_false_iff_ne.mpr c12
           have c12b1 : (t179 != 6) = true := bne_iff_ne.mpr c12
           by_cases c13 : t179 = 2
           ·rw [if_pos c13] at H
            have c13b0 : (t179 == 2) = true := beq_iff_eq.mpr c13
            have c13b1 : (t179 != 2) = false := bne_eq_false_iff_eq.mpr c13
            clear c13
            obtain rfl := Option.some.inj H
            go_enter Tryd.func52, Tryd.ntmps52
            go_wp2_with (first | ((with_reducible refine gate_callee (f := 47) rfl ?_); refine goesL_ (some 4) rfl rfl Tryd.func47 (by kernel_rfl) rfl #[.string a0] rfl (by (try simp only [List.map_toArray, List.map_cons, List.map_nil]); first | done | rfl | (simp only [List.length_drop, List.length_take]; rfl)) ?_; (with_reducible refine (dbus_zzType_Kind.calls k a0 t179 _ A2.out).mono ?_); rintro e w' ⟨rfl, ⟨nd, rfl⟩⟩; refine ⟨_, rfl, ?_⟩))
            go_ret
            exact ⟨by first | rfl | (simp; done) | (simp [*]; done), by repeat (first | exact Drawn0.refl _ | apply Drawn0.step)⟩
           ·rw [if_neg c13] at H
            have c13b0 : (t179 == 2) = false := beq_eq_false_iff_ne.mpr c13
            have c13b1 : (t179 != 2) = true := bne_iff_ne.mpr c13
            obtain rfl := Option.some.inj H
            go_enter Tryd.func52, Tryd.ntmps52
            go_wp2_with (first | ((with_reducible refine gate_callee (f := 47) rfl ?_); refine goesL_ (some 4) rfl rfl Tryd.func47 (by kernel_rfl) rfl #[.string a0] rfl (by (try simp only [List.map_toArray, List.map_cons, List.map_nil]); first | done | rfl | (simp only [List.length_drop, List.length_take]; rfl)) ?_; (with_reducible refine (dbus_zzType_Kind.calls k a0 t179 _ A2.out).mono ?_); rintro e w' ⟨rfl, ⟨nd, rfl⟩⟩; refine ⟨_, rfl, ?_⟩))
            go_ret
            exact ⟨by first | rfl | (simp; done) | (simp [*]; done), by repeat (first | exact Drawn0.refl _ | apply Drawn0.step)⟩

/-! ### dbus_zzType_Key: function 53 -/
def dbus_zzType_Key.f (a0 : ByteArray) : Option (ByteArray) := if 1 ≤ 2 then (if 2 ≤ (a0.size : Int) then (some (a0.extract 1 2)) else (none)) else (none)
set_option maxHeartbeats 8000000 in
set_option maxRecDepth 100000 in
theorem dbus_zzType_Key.calls (a0 : ByteArray) (r : ByteArray) (w : World) (h : dbus_zzType_Key.f a0 = some r) :
  Calls Tryd.prog 53 #[.string a0] w fun e w' => e = .returned (.string r) ∧ Drawn0 w w' := by
 have H : (if 1 ≤ 2 then (if 2 ≤ (a0.size : Int) then (some (a0.extract 1 2)) else (none)) else (none)) = some r := h
 clear h
 by_cases c2 : 1 ≤ 2
 ·rw [if_pos c2] at H
  have c2b0 := eq_true c2
  have c2b1 : decide (1 ≤ 2) = true := decide_eq_true c2
  clear c2
  by_cases c3 : 2 ≤ (a0.size : Int)
  ·rw [if_pos c3] at H
   have c3b0 := eq_true c3
   have c3b1 : decide (2 ≤ (a0.size : Int)) = true := decide_eq_true c3
   clear c3
   obtain rfl := Option.some.inj H
   go_enter Tryd.func53, Tryd.ntmps53
   go_wp2
   go_ret
   exact ⟨by first | rfl | (simp; done) | (simp [*]; done), by repeat (first | exact Drawn0.refl _ | apply Drawn0.step)⟩
  ·rw [if_neg c3] at H
   exact absurd H (by simp)
 ·rw [if_neg c2] at H
  exact absurd H (by simp)

-- NOT PRINTED: function 35 (dbus_getSignature)

/-! ### dbus_zzSliceOf: function 54 -/
def dbus_zzSliceOf.f (a0 : ByteArray) : Option (ByteArray) := if 1 + a0.size ≤ 9223372036854775807 then (some ((⟨#[91]⟩ : ByteArray) ++ a0)) else (none)
set_option maxHeartbeats 8000000 in
set_option maxRecDepth 100000 in
theorem dbus_zzSliceOf.calls (a0 : ByteArray) (r : ByteArray) (w : World) (h : dbus_zzSliceOf.f a0 = some r) :
  Calls Tryd.prog 54 #[.string a0] w fun e w' => e = .returned (.string r) ∧ Drawn0 w w' := by
 have H : (if 1 + a0.size ≤ 9223372036854775807 then (some ((⟨#[91]⟩ : ByteArray) ++ a0)) else (none)) = some r := h
 clear h
 by_cases c2 : 1 + a0.size ≤ 9223372036854775807
 ·rw [if_pos c2] at H
  have c2b0 := eq_true c2
  have c2b1 : decide (1 + a0.size ≤ 9223372036854775807) = true := decide_eq_true c2
  try have c2b2 : (9223372036854775807 < 1 + a0.size) = False := eq_false (Nat.not_lt.2 c2)
  obtain rfl := Option.some.inj H
  go_enter Tryd.func54, Tryd.ntmps54
  go_wp2
  go_ret
  exact ⟨by first | rfl | (simp; done) | (simp [*]; done), by repeat (first | exact Drawn0.refl _ | apply Drawn0.step)⟩
 ·rw [if_neg c2] at H
  exact absurd H (by simp)

/-! ### dbus_zzMapOf: function 55 -/
def dbus_zzMapOf.f (a0 : ByteArray) (a1 : ByteArray) : Option (ByteArray) := if 1 + a0.size ≤ 9223372036854775807 then (if ((⟨#[123]⟩ : ByteArray) ++ a0).size + a1.size ≤ 9223372036854775807 then (some (((⟨#[123]⟩ : ByteArray) ++ a0) ++ a1)) else (none)) else (none)
set_option maxHeartbeats 8000000 in
set_option maxRecDepth 100000 in
theorem dbus_zzMapOf.calls (a0 : ByteArray) (a1 : ByteArray) (r : ByteArray) (w : World) (h : dbus_zzMapOf.f a0 a1 = some r) :
  Calls Tryd.prog 55 #[.string a0, .string a1] w fun e w' => e = .returned (.string r) ∧ Drawn0 w w' := by
 have H : (if 1 + a0.size ≤ 9223372036854775807 then (if ((⟨#[123]⟩ : ByteArray) ++ a0).size + a1.size ≤ 9223372036854775807 then (some (((⟨#[123]⟩ : ByteArray) ++ a0) ++ a1)) else (none)) else (none)) = some r := h
 clear h
 by_cases c3 : 1 + a0.size ≤ 9223372036854775807
 ·rw [if_pos c3] at H
  have c3b0 := eq_true c3
  have c3b1 : decide (1 + a0.size ≤ 9223372036854775807) = true := decide_eq_true c3
  try have c3b2 : (9223372036854775807 < 1 + a0.size) = False := eq_false (Nat.not_lt.2 c3)
  by_cases c4 : ((⟨#[123]⟩ : ByteArray) ++ a0).size + a1.size ≤ 9223372036854775807
  ·rw [if_pos c4] at H
   have c4b0 := eq_true c4
   have c4b1 : decide (((⟨#[123]⟩ : ByteArray) ++ a0).size + a1.size ≤ 9223372036854775807) = true := decide_eq_true c4
   try have c4b2 : (9223372036854775807 < ((⟨#[123]⟩ : ByteArray) ++ a0).size + a1.size) = False := eq_false (Nat.not_lt.2 c4)
   (try have c4e : 1 + a0.size + a1.size ≤ 9223372036854775807 := by (have h_ := c4; simp only [ByteArray.size_append] at h_; exact h_))
   (try have c4e0 := eq_true c4e)
   (try have c4e1 : decide (1 + a0.size + a1.size ≤ 9223372036854775807) = true := decide_eq_true c4e)
   (try have c4e2 : (9223372036854775807 < 1 + a0.size + a1.size) = False := eq_false (Nat.not_lt.2 c4e))
   obtain rfl := Option.some.inj H
   go_enter Tryd.func55, Tryd.ntmps55
   go_wp2
   go_ret
   exact ⟨by first | rfl | (simp; done) | (simp [*]; done), by repeat (first | exact Drawn0.refl _ | apply Drawn0.step)⟩
  ·rw [if_neg c4] at H
   exact absurd H (by simp)
 ·rw [if_neg c3] at H
  exact absurd H (by simp)

-- NOT PRINTED: function 36 (dbus_zzTypeOf)

-- NOT PRINTED: function 25 (dbus_SignatureOf)

-- NOT PRINTED: function 56 (math_Float64frombits)

-- NOT PRINTED: function 66 (dbus_MakeVariantWithSignature)

-- NOT PRINTED: function 57 (dbus_MakeVariant)

-- NOT PRINTED: function 58 (dbus_zzMakeMap)

end Go.Proofs.YtboioihppjhjcaaDoor.MFnSgOf
