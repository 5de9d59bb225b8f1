-- A trial text of this session.
import Derived.Test.YtcnhpiodomknfaaGreatDoorWt11
namespace Go.Proofs.YtcnhpiodomknfaaGreatDoor.MFnWrTurned
open Go.RowKit Go.Proofs.YtcnhpiodomknfaaGreatDoorW.PrintWords Go.Proofs.YtcnhpiodomknfaaGreatDoorW.PrintLast Go.Proofs.YtcnhpiodomknfaaGreatDoorW.PrintMore
attribute [local go_sem] max2_int min2_int max_two min_two max_three min_three max_four min_four
set_option linter.unusedVariables false
set_option linter.unusedSimpArgs false

def Fs (W : World) (F : List (Nat × Obj)) : Prop := ∀ p ∈ F, W.heap[p.1]? = some p.2
theorem Fs.keep {W W' : World} {F : List (Nat × Obj)} (h : Fs W F) (hk : ∀ p ∈ F, W'.heap[p.1]? = W.heap[p.1]?) : Fs W' F := fun p hp => (hk p hp).trans (h p hp)
theorem Fs.below {W W' : World} {F : List (Nat × Obj)} (h : Fs W F) (hb : Below W.heap.size W W') : Fs W' F := h.keep fun p hp => hb.block p.1 (Array.getElem?_eq_some_iff.1 (h p hp)).1
theorem Fs.grown {W W' : World} {F : List (Nat × Obj)} {r : Nat} (h : Fs W F) (hb : W.grownBy W' (some r)) (hn : ∀ p ∈ F, p.1 ≠ r) : Fs W' F := h.keep fun p hp => hb.block p.1 (Array.getElem?_eq_some_iff.1 (h p hp)).1 (by simpa using hn p hp)
theorem Fs.lt {W : World} {F : List (Nat × Obj)} (h : Fs W F) : ∀ p ∈ F, p.1 < W.heap.size := fun p hp => (Array.getElem?_eq_some_iff.1 (h p hp)).1
/-- What the inner buffer is, laid open: nil and nothing, or a row. -/
def Inn (bi : Nat) (l : List Value) (F : List (Nat × Obj)) : Prop :=
  (l = [] ∧ ∃ lr, F = [(bi, .cells #[.slice none 0 0, .int .i64 0, .int .i8 lr] 47 (0, 0))]) ∨
  ∃ g cap cur lr, F = [(bi, .cells #[.slice (some ⟨g, 0, none⟩) l.length cap, .int .i64 0, .int .i8 lr] 47 (0, 0)), (g, .cells cur 5 (0, 0))] ∧ 1 ≤ l.length ∧ l.length ≤ cap ∧ cap ≤ maxLen ∧ cur.size = cap ∧ cur.toList.take l.length = l ∧ g ≠ bi ∧ bi ≤ g
theorem inn_of {W : World} {bi : Nat} {l : List Value} (h : Lib.IsBuffer 47 5 bi bi l W) (hn : l = [] → W.heap[bi]? = some (.cells #[.slice none 0 0, .int .i64 0, .int .i8 0] 47 (0, 0))) : ∃ F, Inn bi l F ∧ Fs W F := by
  by_cases hl : l = []
  · subst hl
    exact ⟨_, .inl ⟨rfl, 0, rfl⟩, by intro p hp; simp at hp; subst hp; exact hn rfl⟩
  · obtain ⟨_, x, lr, hbk, hown, hne⟩ := h
    rcases hown.2 with ⟨rfl, h0⟩ | ⟨g, cap, cur, rfl, hBg, hg, hnc, hcm, hcs, htk⟩
    · exact absurd (List.eq_nil_of_length_eq_zero h0) hl
    · refine ⟨_, .inr ⟨g, cap, cur, lr, rfl, ?_, hnc, hcm, by simpa using hcs, by simpa using htk, by simpa [Value.ownBlock] using hne, hBg⟩, ?_⟩
      · rcases l with _ | ⟨a, l⟩
        · exact absurd rfl hl
        · simp
      · intro p hp
        simp at hp
        rcases hp with rfl | rfl
        · exact hbk
        · exact hg

end Go.Proofs.YtcnhpiodomknfaaGreatDoor.MFnWrTurned
