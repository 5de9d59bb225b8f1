-- A trial text of this session.
import Derived.Test.YtcnhpiodomknfaaGreatDoorWt10
namespace Go.Proofs.YtcnhpiodomknfaaGreatDoor.MFnWrTurned
open Go.RowKit Go.Proofs.YtcnhpiodomknfaaGreatDoorW.PrintWords Go.Proofs.YtcnhpiodomknfaaGreatDoorW.PrintLast Go.Proofs.YtcnhpiodomknfaaGreatDoorW.PrintMore
attribute [local go_sem] max2_int min2_int max_two min_two max_three min_three max_four min_four
set_option linter.unusedVariables false
set_option linter.unusedSimpArgs false

/-- The outer buffer behind its first write: its row g has 64 places. -/
def Ob (W : World) (b g : Nat) (cs : List Value) : Prop :=
  ∃ (cur : Array Value) (lr : Int), W.heap[b]? = some (.cells #[.slice (some ⟨g, 0, none⟩) cs.length 64, .int .i64 0, .int .i8 lr] 47 (0, 0)) ∧ W.heap[g]? = some (.cells cur 5 (0, 0)) ∧ cur.size = 64 ∧ cur.toList.take cs.length = cs ∧ cs.length ≤ 64 ∧ b < g
theorem Ob.isb {W : World} {b g : Nat} {cs : List Value} (h : Ob W b g cs) : Lib.IsBuffer 47 5 b b cs W := by
  obtain ⟨cur, lr, h1, h2, h3, h4, h5, h6⟩ := h
  exact ⟨Nat.le_refl _, _, lr, h1, ⟨by omega, .inr ⟨g, 64, cur, rfl, by omega, h2, h5, by unfold maxLen; omega, by omega, by rw [Nat.mul_one]; exact h4⟩⟩, by simp [Value.ownBlock]; omega⟩
theorem Ob.keep {W W' : World} {b g : Nat} {cs : List Value} (h : Ob W b g cs) (hb : W'.heap[b]? = W.heap[b]?) (hg : W'.heap[g]? = W.heap[g]?) : Ob W' b g cs := by
  obtain ⟨cur, lr, h1, h2, h3⟩ := h
  exact ⟨cur, lr, hb.trans h1, hg.trans h2, h3⟩
theorem spl_take {cur : Array Value} {l n : Nat} {cs : List Value} (hl : l ≤ cur.size) (hn : cs.length = n) (ht : l + n ≤ cur.size) (xs : List Value) (hx : cur.toList.take l = xs) : (spl cur l n cs).toList.take (l + n) = xs ++ cs ∧ (spl cur l n cs).size = cur.size := by
  subst hx
  have h1 : (cur.toList.take l).length = l := by rw [List.length_take, Array.length_toList]; omega
  refine ⟨?_, ?_⟩
  · unfold spl
    rw [List.take_append_of_le_length (by rw [List.length_append, h1, hn]; omega)]
    rw [List.take_of_length_le (by rw [List.length_append, h1, hn]; omega)]
  · unfold spl
    simp only [List.size_toArray, List.length_append, h1, hn, List.length_drop, Array.length_toList]
    omega
theorem isb_grown {w w' : World} {B bi b : Nat} {bs : List Value} (h : Lib.IsBuffer 47 5 B bi bs w) (hg : w.grownBy w' (some b)) (hb : b < B) : Lib.IsBuffer 47 5 B bi bs w' := by
  have hlt := h.lt
  obtain ⟨hB, x, lr, hbk, hown, hne⟩ := h
  refine ⟨hB, x, lr, (hg.block bi hlt (by simp; omega)).trans hbk, hown.kept hg (.inr ?_), hne⟩
  intro h2
  rcases hown.2 with ⟨rfl, _⟩ | ⟨g, cap, cur, rfl, hBg, _⟩
  · simp [Value.ownBlock] at h2
  · have : g = b := by simpa [Value.ownBlock] using h2
    omega
set_option maxRecDepth 100000 in
set_option maxHeartbeats 4000000 in
theorem al4_calls (w : World) (e b : Nat) (c1 c2 : Value) (he : w.heap[e]? = some (.cells #[.iface 50 (.pointer (some ⟨b, 0, none⟩)), c1, c2, .int .i64 4] 65 (0, 0))) (Q : World → Prop) (HE : ∀ w', Q w' → w'.heap[e]? = some (.cells #[.iface 50 (.pointer (some ⟨b, 0, none⟩)), c1, c2, .int .i64 4] 65 (0, 0)))
    (HW : ∀ W1, Below w.heap.size w W1 → ∀ a T, w.heap.size ≤ a → W1.heap[a]? = some (.cells #[.int .u8 0, .int .u8 0, .int .u8 0, .int .u8 0] T (0, 0)) → Calls Tryz.prog 98 #[.pointer (some ⟨b, 0, none⟩), .slice (some ⟨a, 0, none⟩) 4 4] W1 fun e w' => e = .returned (.tuple #[.int .i64 4, .nilIface]) ∧ Q w') :
    Calls Tryz.prog 22 #[.pointer (some ⟨e, 0, none⟩), .int .i64 8] w fun e' w' => e' = .returned (.tuple #[]) ∧ ∃ w1, Q w1 ∧ w' = w1.setCell ⟨e, 3, none⟩ (.int .i64 8) := by
  have HP := Aside0.mk (pad4_calls w e _ _ _ 4 0 he (by omega))
  have c0 : w.cell? ⟨e, 0, none⟩ = some (.iface 50 (.pointer (some ⟨b, 0, none⟩))) := (cell_of_row w e 0 _ 65 (0, 0) he).trans rfl
  have c0a : ∀ o, (w.alloc o).cell? ⟨e, 0, none⟩ = some (.iface 50 (.pointer (some ⟨b, 0, none⟩))) := fun o => pw_cell_below (below_alloc (Below.refl _ _) o) c0
  have hmk := fun W : World => mk_slice 4 (by omega) #[.int .u8 0, .int .u8 0, .int .u8 0, .int .u8 0] (by kernel_rfl) 4 rfl W
  have hmw := m_write b
  have hnw := nil_write b
  have HC := Aside0.mk HW
  have HX := Aside0.mk HE
  clear he HW HE
  go_enter Tryz.func22, Tryz.ntmps22
  go_wp2_with (first | (go_at_call 37; refine HP.out.mono ?_; rintro e1 w2 ⟨rfl, rfl⟩) | (go_at_call 98; refine (HC.out _ (below_alloc (Below.refl _ _) _) _ 5 (Nat.le_refl _) (heap_alloc_new _ _)).mono ?_; rintro e1 w3 ⟨rfl, hq⟩; have HQ := Aside0.mk hq; have hen := HX.out _ hq; have q3 := (cell_of_row w3 e 3 _ 65 (0, 0) hen).trans rfl; have q4 := frozen_of_row w3 e 3 _ 65 hen; clear hq hen))
  all_goals
    go_end0
    exact ⟨rfl, _, HQ.out, rfl⟩

end Go.Proofs.YtcnhpiodomknfaaGreatDoor.MFnWrTurned
