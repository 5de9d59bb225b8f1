-- Written by a program of this session (myprint.py, out of the translation). Not trusted: Lean checks it.
import Derived.Test.YtcnhpiodomknfaaGreatDoorProg
import Derived.Below
import Derived.Deep.Draws
import Derived.Deep.AppendLies
import Derived.Maps.AppendAt
import Derived.OwnWalk
import Derived.Laws.BytesArg
import Derived.Laws.MakeOwn
import Derived.Laws.OwnMore
import Derived.Deep.OwnRows
import Derived.Tactics
import Derived.Lib.ConvBytes
import Derived.Laws.Slices
import Derived.WalkKit
import Derived.KernelRfl
import Derived.RowKit3
import Derived.Deep.LoopGhost
import Derived.Deep.QuietTactic
import Derived.BigQuiet
import Derived.WideLaws
import Derived.Deep.DeepCutAuto
import Derived.Deep.CutBlock
import Derived.Deep.RegionHeld3
import Derived.Laws.Rows
import Derived.Lib.AppendStr
import Derived.ArgAppend
import Derived.Laws.IdiomCopy
import Derived.OrdersHeld
import Derived.Laws.BitsLemmas
import Derived.RowKit
import Derived.Lib.OthersKept
import Derived.Test.YtcnhpiodomknfaaGreatDoorWWords
import Derived.Test.YtcnhpiodomknfaaGreatDoorWLast
import Derived.Test.YtcnhpiodomknfaaGreatDoorWTab
import Derived.Test.YtcnhpiodomknfaaGreatDoorWFour
import Derived.Test.YtcnhpiodomknfaaGreatDoorWQPut
import Derived.Test.YtcnhpiodomknfaaGreatDoorWApart
import Derived.Test.YtcnhpiodomknfaaGreatDoorWArr
import Derived.Test.YtcnhpiodomknfaaGreatDoorWZeros
import Derived.Test.YtcnhpiodomknfaaGreatDoorWFoot
import Derived.Test.YtcnhpiodomknfaaGreatDoorWKept
import Derived.Test.YtcnhpiodomknfaaGreatDoorWShare
import Derived.Test.YtcnhpiodomknfaaGreatDoorWN
import Derived.Test.YtcnhpiodomknfaaGreatDoorWFootNe
import Derived.Test.YtcnhpiodomknfaaGreatDoorWAt
import Derived.Test.YtcnhpiodomknfaaGreatDoorWEqStruct
import Derived.Test.YtcnhpiodomknfaaGreatDoorWRepsOne
import Derived.Test.YtcnhpiodomknfaaGreatDoorWInv
import Derived.Test.YtcnhpiodomknfaaGreatDoorWInvWords
import Derived.Test.YtcnhpiodomknfaaGreatDoorWGuard
import Derived.Test.YtcnhpiodomknfaaGreatDoorWNEv
import Derived.Test.YtcnhpiodomknfaaGreatDoorWMore
namespace Go.Proofs.YtcnhpiodomknfaaGreatDoor.MFnWrTurned
open Go.RowKit Go.Proofs.YtcnhpiodomknfaaGreatDoorW.PrintWords Go.Proofs.YtcnhpiodomknfaaGreatDoorW.PrintLast Go.Proofs.YtcnhpiodomknfaaGreatDoorW.PrintMore
attribute [local go_sem] max2_int min2_int max_two min_two max_three min_three max_four min_four   -- for this text's walks alone
set_option linter.unusedVariables false
set_option linter.unusedSimpArgs false



def errW : Option (TypeId × Value) → Value
  | none => .nilIface
  | some c => .iface c.1 c.2
theorem wrap64_id {x : Int} (h1 : -9223372036854775808 ≤ x) (h2 : x ≤ 9223372036854775807) : wrap64 x = x := by unfold wrap64; omega
theorem errW_none : errW none = .nilIface := rfl
theorem errW_some (c : TypeId × Value) : errW (some c) = .iface c.1 c.2 := rfl

theorem info5 : (Tryz.prog.info? 5).map (fun i => (i.zero, i.size, i.bytes)) = some (some (.int .u8 0), 1, 1) := by kernel_rfl
theorem info9 : (Tryz.prog.info? 9).map (fun i => (i.zero, i.size, i.bytes)) = some (some (.string ⟨#[]⟩), 1, 16) := by kernel_rfl
theorem info28 : (Tryz.prog.info? 28).map (fun i => (i.zero, i.size, i.bytes)) = some (some (.agg #[(.int .u8 0), (.int .u64 0), (.string ⟨#[]⟩), (.slice none 0 0)]), 4, 56) := by kernel_rfl
theorem info59 : (Tryz.prog.info? 59).map (fun i => (i.zero, i.size, i.bytes)) = some (some (.agg #[(.int .u8 0), (.int .u64 0), (.string ⟨#[]⟩), (.slice none 0 0)]), 4, 56) := by kernel_rfl
theorem info71 : (Tryz.prog.info? 71).map (fun i => (i.zero, i.size, i.bytes)) = some (some (.string ⟨#[]⟩), 1, 16) := by kernel_rfl
-- the values' own types
/-! #### struct type 28, nested in itself -/
structure S28 where
  f0 : Int
  f1 : Int
  f2 : ByteArray
  f3 : (List S28)
def z28 : S28 := ⟨(0 : Int), (0 : Int), (⟨#[]⟩ : ByteArray), ([] : List S28)⟩
def F28 (d : Kd S28) : Kd S28 := Kd.iso (Kd.pair (Kd.int .u8) (Kd.pair (Kd.int .u64) (Kd.pair Kd.string (Kd.slice 28 d)))) (fun x : S28 => (x.f0, x.f1, x.f2, x.f3))
theorem mono28 : Kd.Mono F28 := Kd.mono_iso _ (Kd.mono_pair (Kd.mono_const _) (Kd.mono_pair (Kd.mono_const _) (Kd.mono_pair (Kd.mono_const _) (Kd.mono_slice 28 Kd.mono_id))))
theorem sub28 : Kd.Sub F28 [28] := Kd.sub_iso _ (Kd.sub_pair (Kd.sub_const _ (by decide)) (Kd.sub_pair (Kd.sub_const _ (by decide)) (Kd.sub_pair (Kd.sub_const _ (by decide)) (Kd.sub_slice 28 (by decide) Kd.sub_id))))
theorem sz28 : ∀ n, (Kd.upto F28 4 [28] n).sz = 4 := Kd.upto_sz (fun _ => rfl)
def k28 : Kd S28 := Kd.fix F28 4 [28] sz28 (Kd.upto_E sub28)
theorem k28_open {w : World} {x : S28} {cs : List Value} (h : k28.K w x cs) : ∃ A3 c3, cs = [.int .u8 x.f0, .int .u64 x.f1, .string x.f2, .slice A3 x.f3.length c3] ∧ x.f3.length ≤ c3 ∧ k28.C w A3 x.f3.length x.f3 := by
  obtain ⟨n, h⟩ := h
  cases n with
  | zero => exact h.elim
  | succ n =>
    obtain ⟨_, _, rfl, rfl, ⟨_, _, rfl, rfl, ⟨_, _, rfl, rfl, ⟨A3, c3, rfl, l3, g3⟩⟩⟩⟩ := h
    exact ⟨A3, c3, rfl, l3, Kd.fix_C g3⟩
theorem k28_openM {w : World} {base : Nat} {ok : Nat → Prop} {x : S28} {cs : List Value} (h : k28.M w base ok x cs) : ∃ v3, cs = [.int .u8 x.f0, .int .u64 x.f1, .string x.f2, v3] ∧ k28.R 28 w base ok v3 x.f3 := by
  obtain ⟨n, h⟩ := h
  cases n with
  | zero => exact h.elim
  | succ n =>
    obtain ⟨_, _, rfl, rfl, ⟨_, _, rfl, rfl, ⟨_, _, rfl, rfl, ⟨v3, rfl, g3⟩⟩⟩⟩ := h
    exact ⟨v3, rfl, Kd.fix_R g3⟩
theorem k28_mk (w : World) (x : S28) {A3 : Option Addr} {c3 : Nat} (l3 : x.f3.length ≤ c3) (g3 : k28.C w A3 x.f3.length x.f3) : k28.K w x [.int .u8 x.f0, .int .u64 x.f1, .string x.f2, .slice A3 x.f3.length c3] := by
  obtain ⟨n3, q3⟩ := Kd.fix_C_back mono28 g3
  have r3 := Kd.upto_C_le mono28 sz28 (show n3 ≤ n3 by omega) q3
  exact ⟨n3 + 1, ⟨[.int .u8 x.f0], [.int .u64 x.f1, .string x.f2, .slice A3 x.f3.length c3], rfl, rfl, ⟨[.int .u64 x.f1], [.string x.f2, .slice A3 x.f3.length c3], rfl, rfl, ⟨[.string x.f2], [.slice A3 x.f3.length c3], rfl, rfl, ⟨A3, c3, rfl, l3, r3⟩⟩⟩⟩⟩
theorem k28_mkM (w : World) (base : Nat) (ok : Nat → Prop) (x : S28) {v3 : Value} (g3 : k28.R 28 w base ok v3 x.f3) : k28.M w base ok x [.int .u8 x.f0, .int .u64 x.f1, .string x.f2, v3] := by
  obtain ⟨n3, q3⟩ := Kd.fix_R_back mono28 g3
  have r3 := Kd.upto_R_le mono28 sz28 (show n3 ≤ n3 by omega) q3
  exact ⟨n3 + 1, ⟨[.int .u8 x.f0], [.int .u64 x.f1, .string x.f2, v3], rfl, rfl, ⟨[.int .u64 x.f1], [.string x.f2, v3], rfl, rfl, ⟨[.string x.f2], [v3], rfl, rfl, ⟨v3, rfl, r3⟩⟩⟩⟩⟩
theorem k28_openF {W : World} {ok : Nat → Prop} {x : S28} {cs : List Value} (h : Kd.FK k28 W ok x cs) : ∃ A3 c3, cs = [.int .u8 x.f0, .int .u64 x.f1, .string x.f2, .slice A3 x.f3.length c3] ∧ x.f3.length ≤ c3 ∧ Kd.F k28 W ok A3 x.f3.length x.f3 := by
  obtain ⟨A3, c3, rfl, l3, _⟩ := k28_open (Kd.FK_now h)
  exact ⟨A3, c3, rfl, l3, (fun W' hW => by obtain ⟨A3_, c3_, he, l3_, g3_⟩ := k28_open (h W' hW); injection (Option.some.inj (show some (Value.slice A3 x.f3.length c3) = some (Value.slice A3_ x.f3.length c3_) from congrArg (fun l => l[3]?) he)) with ha_ _ _; rw [ha_]; exact g3_)⟩
theorem k28_mkF (W : World) (ok : Nat → Prop) (x : S28) {A3 : Option Addr} {c3 : Nat} (l3 : x.f3.length ≤ c3) (g3 : Kd.F k28 W ok A3 x.f3.length x.f3) : Kd.FK k28 W ok x [.int .u8 x.f0, .int .u64 x.f1, .string x.f2, .slice A3 x.f3.length c3] := fun W2 hW => k28_mk W2 x l3 (g3 W2 hW)
def rd_T28 (xs : List S28) (i : Int) : S28 := xs.getD i.toNat z28
theorem at_T28 {w : World} {A : Option Addr} {n : Nat} {xs : List S28} (h : Kd.C k28 w A n xs) (i : Int) (h0 : 0 ≤ i) (h1 : i < n) : ∃ ad A3 c3, A = some ad ∧ w.cell? (ad.add (i.toNat * 4)) = some (.int .u8 (rd_T28 xs i).f0) ∧ w.cell? ⟨(ad.add (i.toNat * 4)).block, (ad.add (i.toNat * 4)).off + 1, none⟩ = some (.int .u64 (rd_T28 xs i).f1) ∧ w.cell? ⟨(ad.add (i.toNat * 4)).block, (ad.add (i.toNat * 4)).off + 2, none⟩ = some (.string (rd_T28 xs i).f2) ∧ w.cell? ⟨(ad.add (i.toNat * 4)).block, (ad.add (i.toNat * 4)).off + 3, none⟩ = some (.slice A3 (rd_T28 xs i).f3.length c3) ∧ (rd_T28 xs i).f3.length ≤ c3 ∧ k28.C w A3 (rd_T28 xs i).f3.length (rd_T28 xs i).f3 := by
  obtain ⟨ad, c, e, _, hK, hc0⟩ := Kd.C_get h z28 i h0 h1
  have hc : ∀ j u, c[j]? = some u → w.cell? (ad.add (i.toNat * 4 + j)) = some u := hc0
  obtain ⟨A3, c3, rfl, l3, g3⟩ := k28_open hK
  exact ⟨ad, A3, c3, e, hc 0 _ rfl, by rw [← add_field _ _ 1 (by omega)]; exact hc 1 _ rfl, by rw [← add_field _ _ 2 (by omega)]; exact hc 2 _ rfl, by rw [← add_field _ _ 3 (by omega)]; exact hc 3 _ rfl, l3, g3⟩

/-! #### struct type 59, nested in itself -/
structure S59 where
  f0 : Int
  f1 : Int
  f2 : ByteArray
  f3 : (List S59)
def z59 : S59 := ⟨(0 : Int), (0 : Int), (⟨#[]⟩ : ByteArray), ([] : List S59)⟩
def F59 (d : Kd S59) : Kd S59 := Kd.iso (Kd.pair (Kd.int .u8) (Kd.pair (Kd.int .u64) (Kd.pair Kd.string (Kd.slice 59 d)))) (fun x : S59 => (x.f0, x.f1, x.f2, x.f3))
theorem mono59 : Kd.Mono F59 := Kd.mono_iso _ (Kd.mono_pair (Kd.mono_const _) (Kd.mono_pair (Kd.mono_const _) (Kd.mono_pair (Kd.mono_const _) (Kd.mono_slice 59 Kd.mono_id))))
theorem sub59 : Kd.Sub F59 [59] := Kd.sub_iso _ (Kd.sub_pair (Kd.sub_const _ (by decide)) (Kd.sub_pair (Kd.sub_const _ (by decide)) (Kd.sub_pair (Kd.sub_const _ (by decide)) (Kd.sub_slice 59 (by decide) Kd.sub_id))))
theorem sz59 : ∀ n, (Kd.upto F59 4 [59] n).sz = 4 := Kd.upto_sz (fun _ => rfl)
def k59 : Kd S59 := Kd.fix F59 4 [59] sz59 (Kd.upto_E sub59)
theorem k59_open {w : World} {x : S59} {cs : List Value} (h : k59.K w x cs) : ∃ A3 c3, cs = [.int .u8 x.f0, .int .u64 x.f1, .string x.f2, .slice A3 x.f3.length c3] ∧ x.f3.length ≤ c3 ∧ k59.C w A3 x.f3.length x.f3 := by
  obtain ⟨n, h⟩ := h
  cases n with
  | zero => exact h.elim
  | succ n =>
    obtain ⟨_, _, rfl, rfl, ⟨_, _, rfl, rfl, ⟨_, _, rfl, rfl, ⟨A3, c3, rfl, l3, g3⟩⟩⟩⟩ := h
    exact ⟨A3, c3, rfl, l3, Kd.fix_C g3⟩
theorem k59_openM {w : World} {base : Nat} {ok : Nat → Prop} {x : S59} {cs : List Value} (h : k59.M w base ok x cs) : ∃ v3, cs = [.int .u8 x.f0, .int .u64 x.f1, .string x.f2, v3] ∧ k59.R 59 w base ok v3 x.f3 := by
  obtain ⟨n, h⟩ := h
  cases n with
  | zero => exact h.elim
  | succ n =>
    obtain ⟨_, _, rfl, rfl, ⟨_, _, rfl, rfl, ⟨_, _, rfl, rfl, ⟨v3, rfl, g3⟩⟩⟩⟩ := h
    exact ⟨v3, rfl, Kd.fix_R g3⟩
theorem k59_mk (w : World) (x : S59) {A3 : Option Addr} {c3 : Nat} (l3 : x.f3.length ≤ c3) (g3 : k59.C w A3 x.f3.length x.f3) : k59.K w x [.int .u8 x.f0, .int .u64 x.f1, .string x.f2, .slice A3 x.f3.length c3] := by
  obtain ⟨n3, q3⟩ := Kd.fix_C_back mono59 g3
  have r3 := Kd.upto_C_le mono59 sz59 (show n3 ≤ n3 by omega) q3
  exact ⟨n3 + 1, ⟨[.int .u8 x.f0], [.int .u64 x.f1, .string x.f2, .slice A3 x.f3.length c3], rfl, rfl, ⟨[.int .u64 x.f1], [.string x.f2, .slice A3 x.f3.length c3], rfl, rfl, ⟨[.string x.f2], [.slice A3 x.f3.length c3], rfl, rfl, ⟨A3, c3, rfl, l3, r3⟩⟩⟩⟩⟩
theorem k59_mkM (w : World) (base : Nat) (ok : Nat → Prop) (x : S59) {v3 : Value} (g3 : k59.R 59 w base ok v3 x.f3) : k59.M w base ok x [.int .u8 x.f0, .int .u64 x.f1, .string x.f2, v3] := by
  obtain ⟨n3, q3⟩ := Kd.fix_R_back mono59 g3
  have r3 := Kd.upto_R_le mono59 sz59 (show n3 ≤ n3 by omega) q3
  exact ⟨n3 + 1, ⟨[.int .u8 x.f0], [.int .u64 x.f1, .string x.f2, v3], rfl, rfl, ⟨[.int .u64 x.f1], [.string x.f2, v3], rfl, rfl, ⟨[.string x.f2], [v3], rfl, rfl, ⟨v3, rfl, r3⟩⟩⟩⟩⟩
theorem k59_openF {W : World} {ok : Nat → Prop} {x : S59} {cs : List Value} (h : Kd.FK k59 W ok x cs) : ∃ A3 c3, cs = [.int .u8 x.f0, .int .u64 x.f1, .string x.f2, .slice A3 x.f3.length c3] ∧ x.f3.length ≤ c3 ∧ Kd.F k59 W ok A3 x.f3.length x.f3 := by
  obtain ⟨A3, c3, rfl, l3, _⟩ := k59_open (Kd.FK_now h)
  exact ⟨A3, c3, rfl, l3, (fun W' hW => by obtain ⟨A3_, c3_, he, l3_, g3_⟩ := k59_open (h W' hW); injection (Option.some.inj (show some (Value.slice A3 x.f3.length c3) = some (Value.slice A3_ x.f3.length c3_) from congrArg (fun l => l[3]?) he)) with ha_ _ _; rw [ha_]; exact g3_)⟩
theorem k59_mkF (W : World) (ok : Nat → Prop) (x : S59) {A3 : Option Addr} {c3 : Nat} (l3 : x.f3.length ≤ c3) (g3 : Kd.F k59 W ok A3 x.f3.length x.f3) : Kd.FK k59 W ok x [.int .u8 x.f0, .int .u64 x.f1, .string x.f2, .slice A3 x.f3.length c3] := fun W2 hW => k59_mk W2 x l3 (g3 W2 hW)
def rd_T59 (xs : List S59) (i : Int) : S59 := xs.getD i.toNat z59
theorem at_T59 {w : World} {A : Option Addr} {n : Nat} {xs : List S59} (h : Kd.C k59 w A n xs) (i : Int) (h0 : 0 ≤ i) (h1 : i < n) : ∃ ad A3 c3, A = some ad ∧ w.cell? (ad.add (i.toNat * 4)) = some (.int .u8 (rd_T59 xs i).f0) ∧ w.cell? ⟨(ad.add (i.toNat * 4)).block, (ad.add (i.toNat * 4)).off + 1, none⟩ = some (.int .u64 (rd_T59 xs i).f1) ∧ w.cell? ⟨(ad.add (i.toNat * 4)).block, (ad.add (i.toNat * 4)).off + 2, none⟩ = some (.string (rd_T59 xs i).f2) ∧ w.cell? ⟨(ad.add (i.toNat * 4)).block, (ad.add (i.toNat * 4)).off + 3, none⟩ = some (.slice A3 (rd_T59 xs i).f3.length c3) ∧ (rd_T59 xs i).f3.length ≤ c3 ∧ k59.C w A3 (rd_T59 xs i).f3.length (rd_T59 xs i).f3 := by
  obtain ⟨ad, c, e, _, hK, hc0⟩ := Kd.C_get h z59 i h0 h1
  have hc : ∀ j u, c[j]? = some u → w.cell? (ad.add (i.toNat * 4 + j)) = some u := hc0
  obtain ⟨A3, c3, rfl, l3, g3⟩ := k59_open hK
  exact ⟨ad, A3, c3, e, hc 0 _ rfl, by rw [← add_field _ _ 1 (by omega)]; exact hc 1 _ rfl, by rw [← add_field _ _ 2 (by omega)]; exact hc 2 _ rfl, by rw [← add_field _ _ 3 (by omega)]; exact hc 3 _ rfl, l3, g3⟩

end Go.Proofs.YtcnhpiodomknfaaGreatDoor.MFnWrTurned
