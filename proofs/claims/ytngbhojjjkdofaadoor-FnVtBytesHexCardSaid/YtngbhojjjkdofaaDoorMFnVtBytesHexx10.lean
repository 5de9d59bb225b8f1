-- Written by a program of this session (myprint.py, out of the translation). Not trusted: Lean checks it.
import Derived.Test.YtngbhojjjkdofaaDoorMFnVtBytesHexx0
namespace Go.Proofs.YtngbhojjjkdofaaDoor.MFnVtBytesHex
open Go.RowKit Go.Proofs.YtngbhojjjkdofaaDoorW.PrintWords Go.Proofs.YtngbhojjjkdofaaDoorW.PrintLast Go.Proofs.YtngbhojjjkdofaaDoorW.PrintMore
attribute [local go_sem] max2_int min2_int max_two min_two max_three min_three max_four min_four   -- for this text's walks alone
set_option linter.unusedVariables false
set_option linter.unusedSimpArgs false

/-! ### spec_Upper: function 10 -/
-- GIVENTEXT
def upc (c : UInt8) : UInt8 := if 97 ≤ c.toNat ∧ c.toNat ≤ 122 then c - 32 else c
theorem sub32 (c : UInt8) (h1 : 97 ≤ c.toNat) (h2 : c.toNat ≤ 122) : IntKind.u8.wrap ((c.toNat : Int) - 32) = ((upc c).toNat : Int) := by
  have hu : upc c = c - 32 := by unfold upc; rw [if_pos ⟨h1, h2⟩]
  rw [hu, UInt8.toNat_sub_of_le c 32 (by rw [UInt8.le_iff_toNat_le]; show 32 ≤ c.toNat; omega), IntKind.wrap_u8]
  show _ = ((c.toNat - 32 : Nat) : Int)
  omega
def UpInv (b i : Nat) (l : List UInt8) (w : World) : Prop := ∀ j (hj : j < l.length), w.cell? ⟨b, j, none⟩ = some (.int .u8 ((if j < i then upc l[j] else l[j]).toNat : Int)) ∧ w.frozen? ⟨b, j, none⟩ = false
theorem UpInv.stay {b i : Nat} {l : List UInt8} {w : World} (h : UpInv b i l w) (hi : i < l.length) (hc : upc l[i] = l[i]) : UpInv b (i + 1) l w := by
  intro j hj
  obtain ⟨h1, h2⟩ := h j hj
  refine ⟨?_, h2⟩
  rw [h1]
  by_cases q : j = i
  · subst q
    simp [hc]
  · have : (j < i + 1) = (j < i) := by apply propext; omega
    simp only [this]
theorem UpInv.put {b i : Nat} {l : List UInt8} {w : World} (h : UpInv b i l w) (hi : i < l.length) : UpInv b (i + 1) l (w.setCell ⟨b, i, none⟩ (.int .u8 ((upc l[i]).toNat : Int))) := by
  intro j hj
  obtain ⟨h1, h2⟩ := h j hj
  refine ⟨?_, by rw [World.frozen?_setCell]; exact h2⟩
  by_cases q : j = i
  · subst q
    rw [World.cell?_setCell_same _ _ _ h1]
    simp
  · rw [World.cell?_setCell_other (h := fun e => q (by injection e with _ e2; exact e2.symm)), h1]
    have : (j < i + 1) = (j < i) := by apply propext; omega
    simp only [this]
set_option maxHeartbeats 1000000 in
theorem upper_calls (s : ByteArray) (hs : s.size ≤ 1000) (w : World) : Calls Tryd.prog 10 #[.string s] w fun e w' => e = .returned (.string ⟨(s.data.toList.map upc).toArray⟩) ∧ Below w.heap.size w w' := by
  have hcv := fun W : World => Lib.run_convert_string_bytes (P := Tryd.prog) W 9 27 5 s Tryd.underlying9 Tryd.underlying27 Tryd.underlying5
  have hlen : s.data.toList.length = s.size := rfl
  have hbl : Below w.heap.size w (Lib.bytesWorld w 5 s) := bytes_below (Below.refl _ _) (Nat.le_refl _) 5 s
  have hin : UpInv w.heap.size 0 s.data.toList (Lib.bytesWorld w 5 s) := by
    intro j hj
    refine ⟨?_, ?_⟩
    · rw [Lib.bytesWorld_cell w 5 s j (by omega), show s.data.toList.getD j 0 = s.data.toList[j] from by rw [List.getD, List.getElem?_eq_getElem hj]; rfl, if_neg (by omega)]
    · have hsz : j < (Lib.bytesCells w 5 s).size := by
        rw [Lib.bytesCells, Array.size_append]
        simp
        omega
      simp [World.frozen?, Lib.bytesWorld_at_new]
      omega
  have HB := Aside0.mk hbl
  have HI := Aside0.mk hin
  clear hbl hin
  go_enter Tryd.func10, Tryd.ntmps10
  go_wp2
  clear hcv
  go_loopg [10] s.size (fun kq v10 w' => ∃ i : Nat, v10 = .int .i64 (i : Int) ∧ i ≤ s.size ∧ Aside0 (kq = s.size - i ∧ UpInv w.heap.size i s.data.toList w' ∧ Below w.heap.size w w'))
  case atStart => exact ⟨0, rfl, Nat.zero_le _, ⟨rfl, HI.out, HB.out⟩⟩
  case round =>
    obtain ⟨i, rfl, hi, HA⟩ := hrel
    by_cases hlt : i < s.size
    · have hd1 : decide ((i : Int) < (s.size : Int)) = true := by simpa using hlt
      have hd2 : decide (i < s.size) = true := by simpa using hlt
      obtain ⟨c, hc⟩ : ∃ c : UInt8, c = s.data.toList[i] := ⟨_, rfl⟩
      obtain ⟨hcx0, hf⟩ := HA.out.2.1 i hlt
      have hcx : wr.cell? ⟨w.heap.size, i, none⟩ = some (.int .u8 (c.toNat : Int)) := by rw [hcx0, if_neg (by omega), hc]
      have HC := Aside0.mk hc
      clear hc hcx0
      have hwk : IntKind.i64.wrap ((i : Int) + 1) = ((i + 1 : Nat) : Int) := by rw [IntKind.wrap_i64]; omega
      by_cases k1 : 97 ≤ c.toNat
      · have d1 : decide ((97 : Int) ≤ (c.toNat : Int)) = true := by simp; omega
        by_cases k2 : c.toNat ≤ 122
        · have d2 : decide ((c.toNat : Int) ≤ (122 : Int)) = true := by simp; omega
          have hw1 := sub32 c k1 k2
          go_wp2
          go_roundg (s.size - (i + 1))
          case measure => have := HA.out.1; omega
          case rel => exact ⟨i + 1, by first | rfl | simp, hlt, ⟨rfl, by rw [HC.out]; exact HA.out.2.1.put hlt, HA.out.2.2.setCell (Nat.le_refl _) _⟩⟩
        · have d2 : decide ((c.toNat : Int) ≤ (122 : Int)) = false := by simp; omega
          go_wp2
          go_roundg (s.size - (i + 1))
          case measure => have := HA.out.1; omega
          case rel => exact ⟨i + 1, by first | rfl | simp, hlt, ⟨rfl, HA.out.2.1.stay hlt (by rw [← HC.out]; unfold upc; rw [if_neg (by omega)]), HA.out.2.2⟩⟩
      · have d1 : decide ((97 : Int) ≤ (c.toNat : Int)) = false := by simp; omega
        go_wp2
        go_roundg (s.size - (i + 1))
        case measure => have := HA.out.1; omega
        case rel => exact ⟨i + 1, by first | rfl | simp, hlt, ⟨rfl, HA.out.2.1.stay hlt (by rw [← HC.out]; unfold upc; rw [if_neg (by omega)]), HA.out.2.2⟩⟩
    · have hd1 : decide ((i : Int) < (s.size : Int)) = false := by simpa using hlt
      have hd2 : decide (i < s.size) = false := by simpa using hlt
      have hl2 : (s.data.toList.map upc).length = s.size := by simp
      have hcv2 := run_convert_bytes_back (P := Tryd.prog) wr 27 9 5 ⟨w.heap.size, 0, none⟩ (grownCap w s.size 0 5) (s.data.toList.map upc) Tryd.underlying27 Tryd.underlying5 Tryd.underlying9 (fun q hq => by
        have hq2 : q < s.data.toList.length := by simpa using hq
        rw [Addr.add_lit, Nat.zero_add, (HA.out.2.1 q hq2).1, if_pos (by omega)]
        simp)
      rw [hl2] at hcv2
      go_wp2
      go_ret
      exact ⟨rfl, HA.out.2.2⟩
def spec_Upper.f (a0 : ByteArray) : Option ByteArray := if a0.size ≤ 1000 then some ⟨(a0.data.toList.map upc).toArray⟩ else none
theorem spec_Upper.calls (a0 r : ByteArray) (w : World) (h : spec_Upper.f a0 = some r) : Calls Tryd.prog 10 #[.string a0] w fun e w' => e = .returned (.string r) ∧ Below w.heap.size w w' := by
  unfold spec_Upper.f at h
  split at h
  · rename_i hs
    cases h
    exact upper_calls a0 hs w
  · cases h

end Go.Proofs.YtngbhojjjkdofaaDoor.MFnVtBytesHex
