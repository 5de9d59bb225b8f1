-- A trial text of this session.
import Derived.Test.YtcnhpiodomknfaaGreatDoorWt12
namespace Go.Proofs.YtcnhpiodomknfaaGreatDoor.MFnWrTurned
open Go.RowKit Go.Proofs.YtcnhpiodomknfaaGreatDoorW.PrintWords Go.Proofs.YtcnhpiodomknfaaGreatDoorW.PrintLast Go.Proofs.YtcnhpiodomknfaaGreatDoorW.PrintMore
attribute [local go_sem] max2_int min2_int max_two min_two max_three min_three max_four min_four
set_option linter.unusedVariables false
set_option linter.unusedSimpArgs false

theorem inn_len {W : World} {bi : Nat} {l : List Value} {F : List (Nat × Obj)} (h : Inn bi l F) (hF : Fs W F) : Calls Tryz.prog 40 #[.pointer (some ⟨bi, 0, none⟩)] W fun e w' => e = .returned (.int .i64 (l.length : Int)) ∧ ∃ k, w' = W.drewN k := by
  rcases h with ⟨rfl, lr, rfl⟩ | ⟨g, cap, cur, lr, rfl, h1, h2, h3, h4, h5, h6, h7⟩
  · exact Tryz.Buffer_Len bi bi [] W (nil_isBuffer (hF (bi, _) (List.mem_singleton.2 rfl)))
  · exact len0_calls W bi g l.length cap cur lr (hF (bi, _) (by simp)) (hF (g, _) (by simp)) h6 h2 h3 h4
theorem isb_only {w w' : World} {B b bi : Nat} {bs : List Value} {en : Array Value} (h : Lib.IsBuffer 47 5 B b bs w) (he : w.heap[bi]? = some (.cells en 47 (0, 0))) (hn : bi ≠ b) (hk : ∀ k, k ≠ bi → w'.heap[k]? = w.heap[k]?) (h1 : w'.os = w.os) (h2 : w'.tape = w.tape) (h3 : w'.output = w.output) (h4 : w'.heap.size = w.heap.size) : Lib.IsBuffer 47 5 B b bs w' := by
  have hg : w.grownBy w' (some bi) := ⟨h1, h2, h3, by omega, fun k _ hr => hk k (by simpa using hr)⟩
  obtain ⟨hB, x, lr, hbk, hown, hne⟩ := h
  refine ⟨hB, x, lr, (hk b (Ne.symm hn)).trans hbk, hown.kept hg (.inr ?_), hne⟩
  intro h5
  rcases hown.2 with ⟨rfl, _⟩ | ⟨g, cap, cur, rfl, _, hgg, _⟩
  · simp [Value.ownBlock] at h5
  · have : g = bi := by simpa [Value.ownBlock] using h5
    subst this
    rw [hgg] at he
    injection he with he
    injection he with _ he _
    cases he
theorem inn_wto {W : World} {bi b g : Nat} {l cs : List Value} {F : List (Nat × Obj)} (h : Inn bi l F) (hF : Fs W F) (hO : Ob W b g cs) (hgF : ∀ p ∈ F, p.1 ≠ g) (hb : b < bi) (h1 : ∀ v ∈ cs, v.oneCell' = true) (h1l : ∀ v ∈ l, v.oneCell' = true) (hl : l.length ≤ 5000) (hc : cs.length ≤ 64) :
    Calls Tryz.prog 41 #[.pointer (some ⟨bi, 0, none⟩), .iface 50 (.pointer (some ⟨b, 0, none⟩))] W fun e' w' => e' = .returned (.tuple #[.int .i64 (l.length : Int), .nilIface]) ∧ Lib.IsBuffer 47 5 b b (cs ++ l) w' ∧ Below b W w' ∧ ∀ (k : Nat) (co : Array Value) (T : TypeId), k ≠ b → k ≠ bi → T ≠ 5 → W.heap[k]? = some (.cells co T (0, 0)) → w'.heap[k]? = some (.cells co T (0, 0)) := by
  have hbW : b < W.heap.size := hO.isb.lt
  rcases h with ⟨rfl, lr, rfl⟩ | ⟨gi, cap, cur, lr, rfl, h0, h2, h3, h4, h5, h6, h7⟩
  · have hbi : W.heap[bi]? = some (.cells #[.slice none 0 0, .int .i64 0, .int .i8 lr] 47 (0, 0)) := hF (bi, _) (List.mem_singleton.2 rfl)
    refine (wto0_calls W bi b lr hbi).mono ?_
    rintro e' w' ⟨rfl, z1, z2, z3, z4, z5⟩
    refine ⟨rfl, ?_, ⟨z2, z3, z4, by omega, fun k hk => z1 k (by omega)⟩, fun k co T hk1 hk2 hk3 hk4 => (z1 k hk2).trans hk4⟩
    rw [List.append_nil]
    exact isb_only hO.isb hbi (by omega) z1 z2 z3 z4 z5
  · have hbi : W.heap[bi]? = some (.cells #[.slice (some ⟨gi, 0, none⟩) l.length cap, .int .i64 0, .int .i8 lr] 47 (0, 0)) := hF (bi, _) (by simp)
    have hgi : W.heap[gi]? = some (.cells cur 5 (0, 0)) := hF (gi, _) (by simp)
    refine (wto_calls W bi b gi l.length cap cur lr hbi hgi h6 h0 h2 h3 (by omega) h4
      (fun w1 => ∃ W1, ((∀ k, k ≠ bi → W1.heap[k]? = W.heap[k]?) ∧ W1.os = W.os ∧ W1.tape = W.tape ∧ W1.output = W.output ∧ W1.heap.size = W.heap.size ∧ W1.heap[bi]? = some (.cells #[.slice (some ⟨gi, 0, none⟩) l.length cap, .int .i64 0, .int .i8 0] 47 (0, 0))) ∧ Lib.IsBuffer 47 5 b b (cs ++ l) w1 ∧ Below b W1 w1 ∧ Lib.OthersKept 5 (some b) W1 w1) ?_ ?_).mono ?_
    · intro W1 k1 k2 k3 k4 k5 k6
      have hO1 : Ob W1 b g cs := hO.keep (k1 b (by omega)) (k1 g (by have := hgF (bi, .cells #[.slice (some ⟨gi, 0, none⟩) l.length cap, .int .i64 0, .int .i8 lr] 47 (0, 0)) (by simp); simpa using Ne.symm this))
      have hgi1 := (k1 gi h6).trans hgi
      refine (Tryz.Buffer_Write_any b b cs l ⟨gi, 0, none⟩ l.length cap W1 hO1.isb (by omega) h1 rfl (by show gi ≠ b; omega) (fun j v hj => Lib.cells_of_row hgi1 l.length j v (by rw [h5]; exact hj)) h1l (by omega)).mono ?_
      rintro e' w' ⟨he', q1, q2, q3⟩
      exact ⟨he', W1, ⟨k1, k2, k3, k4, k5, k6⟩, q1, q2, q3⟩
    · rintro w1 ⟨W1, ⟨k1, k2, k3, k4, k5, k6⟩, q1, q2, q3⟩
      exact q3 bi _ k6 (by simp; omega) (by intro c fz h; injection h with _ h _; cases h)
    · rintro e' w' ⟨rfl, w1, ⟨W1, ⟨k1, k2, k3, k4, k5, k6⟩, q1, q2, q3⟩, z1, z2, z3, z4, z5⟩
      have hw1 := q3 bi _ k6 (by simp; omega) (by intro c fz h; injection h with _ h _; cases h)
      refine ⟨rfl, isb_only q1 hw1 (by omega) z1 z2 z3 z4 z5, ⟨z2.trans (q2.os.trans k2), z3.trans (q2.tape.trans k3), z4.trans (q2.output.trans k4), by have := q2.size; omega, fun k hk => (z1 k (by omega)).trans ((q2.block k hk).trans (k1 k (by omega)))⟩, ?_⟩
      intro k co T hk1 hk2 hk3 hk4
      exact (z1 k hk2).trans (q3 k _ ((k1 k hk2).trans hk4) (by simpa using hk1) (by intro c fz h; injection h with _ h _; exact hk3 h))

end Go.Proofs.YtcnhpiodomknfaaGreatDoor.MFnWrTurned
