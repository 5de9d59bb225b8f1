-- A trial text of this session.
import Derived.Test.YtcnhpiodomknfaaGreatDoorWt7b
import Derived.Test.YtcnhpiodomknfaaGreatDoorWt6
import Derived.Test.YtcnhpiodomknfaaGreatDoorWt4
import Derived.Lib.BufferOld
namespace Go.Proofs.YtcnhpiodomknfaaGreatDoor.MFnWrTurned
open Go.RowKit Go.Proofs.YtcnhpiodomknfaaGreatDoorW.PrintWords Go.Proofs.YtcnhpiodomknfaaGreatDoorW.PrintLast Go.Proofs.YtcnhpiodomknfaaGreatDoorW.PrintMore
attribute [local go_sem] max2_int min2_int max_two min_two max_three min_three max_four min_four
set_option linter.unusedVariables false
set_option linter.unusedSimpArgs false

def lb (k m : Nat) : List UInt8 := (List.range k).map fun j => UInt8.ofNat (m / 256 ^ j % 256)
def bl (big : Bool) (k m : Nat) : List UInt8 := if big then (lb k m).reverse else lb k m
theorem bl_len (big : Bool) (k m : Nat) : (bl big k m).length = k := by unfold bl lb; cases big <;> simp
def sx (k m : Nat) : Int := if m < 2 ^ (8 * k - 1) then (m : Int) else (m : Int) - 2 ^ (8 * k)
theorem byte_one (l : List UInt8) : ∀ v ∈ Lib.byteCells l, v.oneCell' = true := by
  intro v hv
  obtain ⟨c, _, rfl⟩ := List.mem_map.1 hv
  rfl
theorem keep_below {B : Nat} {w W : World} (h : Below w.heap.size w W) (hB : B ≤ w.heap.size) : Below B w W := ⟨h.os, h.tape, h.output, h.size, fun k hk => h.block k (Nat.lt_of_lt_of_le hk hB)⟩
theorem others_below {w W : World} {b : Option Nat} (h : Below w.heap.size w W) : Lib.OthersKept 5 b w W := fun k o hk _ _ => (h.block k (Array.getElem?_eq_some_iff.1 hk).1).trans hk
/-- What the inner buffer's state is behind a write of cs. -/
def Qin (w : World) (bi : Nat) (bs cs : List Value) (w' : World) : Prop := Lib.IsBuffer 47 5 bi bi (bs ++ cs) w' ∧ Below bi w w' ∧ Lib.OthersKept 5 (some bi) w w'
theorem hw_in (w : World) (bi : Nat) (bs : List Value) (hI : Lib.IsBuffer 47 5 bi bi bs w) (h1 : ∀ v ∈ bs, v.oneCell' = true) (cs : List Value) (h1c : ∀ v ∈ cs, v.oneCell' = true) (hl : bs.length + cs.length ≤ 100000) (W1 : World) (hb : Below w.heap.size w W1) (a : Nat) (T : TypeId) (ha : w.heap.size ≤ a) (hc : W1.heap[a]? = some (.cells cs.toArray T (0, 0))) :
    Calls Tryz.prog 98 #[.pointer (some ⟨bi, 0, none⟩), .slice (some ⟨a, 0, none⟩) cs.length cs.length] W1 fun e w' => e = .returned (.tuple #[.int .i64 (cs.length : Int), .nilIface]) ∧ Qin w bi bs cs w' := by
  have hlt := hI.lt
  refine (Tryz.Buffer_Write_any bi bi bs cs ⟨a, 0, none⟩ cs.length cs.length W1 (hI.old hb) (Nat.le_trans (Nat.le_of_lt hlt) hb.size) h1 rfl (by show a ≠ bi; omega) (fun j v hj => Lib.cells_of_row hc cs.length j v (by simpa using hj)) h1c (by omega)).mono ?_
  rintro e w' ⟨he, h2, h3, h4⟩
  exact ⟨he, h2, (keep_below hb (Nat.le_of_lt hlt)).trans h3, (others_below hb).trans h4⟩
theorem Qin.enc {w w' : World} {bi e : Nat} {bs cs : List Value} {en : Array Value} (h : Qin w bi bs cs w') (he : w.heap[e]? = some (.cells en 65 (0, 0))) (hn : e ≠ bi) : w'.heap[e]? = some (.cells en 65 (0, 0)) :=
  h.2.2 e _ he (by simpa using hn) (by intro c fz h; injection h with _ h2 _; cases h2)
/-- A store into another block than the buffer's. -/
theorem isb_set {w : World} {B bi e i : Nat} {bs : List Value} {en : Array Value} {v : Value} (h : Lib.IsBuffer 47 5 B bi bs w) (he : w.heap[e]? = some (.cells en 65 (0, 0))) (hn : e ≠ bi) : Lib.IsBuffer 47 5 B bi bs (w.setCell ⟨e, i, none⟩ v) := by
  obtain ⟨hB, x, lr, hbk, hown, hne⟩ := h
  refine ⟨hB, x, lr, ?_, hown.kept (Lib.grownBy_setCell w e i v) (.inr ?_), hne⟩
  · rw [Below.heap_setCell _ ⟨e, i, none⟩ _ bi (Ne.symm hn)]; exact hbk
  · intro h2
    rcases hown.2 with ⟨rfl, _⟩ | ⟨g, cap, cur, rfl, _, hg, _⟩
    · simp [Value.ownBlock] at h2
    · have : g = e := by simpa [Value.ownBlock] using h2
      subst this
      rw [hg] at he
      injection he with he
      injection he with _ he _
      cases he
theorem bl1t (m : Nat) : Lib.byteCells (bl true 1 m) = [.int .u8 ((m : Int) % 256)] := by
  simp [Lib.byteCells, bl, lb, List.range_succ]
theorem bl1f (m : Nat) : Lib.byteCells (bl false 1 m) = [.int .u8 ((m : Int) % 256)] := by
  simp [Lib.byteCells, bl, lb, List.range_succ]
theorem bl2t (m : Nat) : Lib.byteCells (bl true 2 m) = [.int .u8 ((m : Int) / 256 % 256), .int .u8 ((m : Int) % 256)] := by
  simp [Lib.byteCells, bl, lb, List.range_succ]
theorem bl2f (m : Nat) : Lib.byteCells (bl false 2 m) = [.int .u8 ((m : Int) % 256), .int .u8 ((m : Int) / 256 % 256)] := by
  simp [Lib.byteCells, bl, lb, List.range_succ]
theorem bl4t (m : Nat) : Lib.byteCells (bl true 4 m) = [.int .u8 ((m : Int) / 16777216 % 256), .int .u8 ((m : Int) / 65536 % 256), .int .u8 ((m : Int) / 256 % 256), .int .u8 ((m : Int) % 256)] := by
  simp [Lib.byteCells, bl, lb, List.range_succ]
theorem bl4f (m : Nat) : Lib.byteCells (bl false 4 m) = [.int .u8 ((m : Int) % 256), .int .u8 ((m : Int) / 256 % 256), .int .u8 ((m : Int) / 65536 % 256), .int .u8 ((m : Int) / 16777216 % 256)] := by
  simp [Lib.byteCells, bl, lb, List.range_succ]
theorem bl8t (m : Nat) : Lib.byteCells (bl true 8 m) = [.int .u8 ((m : Int) / 72057594037927936 % 256), .int .u8 ((m : Int) / 281474976710656 % 256), .int .u8 ((m : Int) / 1099511627776 % 256), .int .u8 ((m : Int) / 4294967296 % 256), .int .u8 ((m : Int) / 16777216 % 256), .int .u8 ((m : Int) / 65536 % 256), .int .u8 ((m : Int) / 256 % 256), .int .u8 ((m : Int) % 256)] := by
  simp [Lib.byteCells, bl, lb, List.range_succ]
theorem bl8f (m : Nat) : Lib.byteCells (bl false 8 m) = [.int .u8 ((m : Int) % 256), .int .u8 ((m : Int) / 256 % 256), .int .u8 ((m : Int) / 65536 % 256), .int .u8 ((m : Int) / 16777216 % 256), .int .u8 ((m : Int) / 4294967296 % 256), .int .u8 ((m : Int) / 1099511627776 % 256), .int .u8 ((m : Int) / 281474976710656 % 256), .int .u8 ((m : Int) / 72057594037927936 % 256)] := by
  simp [Lib.byteCells, bl, lb, List.range_succ]

end Go.Proofs.YtcnhpiodomknfaaGreatDoor.MFnWrTurned
