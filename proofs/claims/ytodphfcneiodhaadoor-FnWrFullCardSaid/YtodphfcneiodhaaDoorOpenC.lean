/- How a slice that came in reads in memory, for any kind of its elements. -/
import Derived.Test.YtodphfcneiodhaaDoorWMore
import Derived.OpenShut
import Derived.Deep.Slices
namespace Go.Proofs.YtodphfcneiodhaaDoor.OpenC
open Go Go.Deep Go.ChangeShapes Go.WideShapes Go.Proofs.YtodphfcneiodhaaDoorW.PrintWords

section
variable {H : Type} {enc : TypeId × Value → H} {P : Program} {w : World} {base : Nat} {spare : Nat → Bool} {held : Bool}
theorem open_C {α : Type} [Inhabited α] (d : Kd α) {t e : TypeId} (ht : P.underlying t = some (.slice e)) (hc : P.cellsOf e = d.sz)
    (hel : ∀ (n : Nat) (cs : List Value) (y : DataW H × List MemPlace), DataW.trod enc P w base spare held n e cs = some y → ∃ x, d.K w x cs)
    {fuel : Nat} {cs : List Value} {x : DataW H × List MemPlace} (h : DataW.trod enc P w base spare held fuel t cs = some x) :
    ∃ (A : Option Addr) (xs : List α) (c : Nat), cs = [.slice A xs.length c] ∧ xs.length ≤ c ∧ d.C w A xs.length xs := by
  rcases open_slice ht h with h0 | ⟨a, len, cap, m, n, D, Pl, rfl, hb, hl, hm, hmm, rfl, hx⟩
  · exact ⟨none, [], 0, h0.1, Nat.le_refl _, rfl, Nat.zero_le _, fun h => absurd h (Nat.lt_irrefl _)⟩
  · have hlm : len ≤ m := by rw [hmm]; split <;> omega
    have each : ∀ i, i < len → ∃ q : α, ∃ c, c.length = d.sz ∧ d.K w q c ∧ ∀ j u, c[j]? = some u → w.cell? (a.add (i * d.sz + j)) = some u := by
      intro i hi
      obtain ⟨cs', h1, h2⟩ := hx i (by omega)
      obtain ⟨q, hq⟩ := hel n cs' _ h2
      rw [hc] at h1
      obtain ⟨_, hlen, hcell⟩ := World.cells?_some h1
      refine ⟨q, cs', hlen, hq, fun j u hu => ?_⟩
      have hj : j < d.sz := by have := (List.getElem?_eq_some_iff.1 hu).1; omega
      have := hcell j hj
      rw [Deep.add_add] at this
      rw [this, hu]
    obtain ⟨q, hq⟩ := choose_lt each
    refine ⟨some a, (List.range len).map q, cap, by simp, by simpa using hl, by simp, by simp; unfold maxLen at hm; omega, fun _ => ⟨a, rfl, fun j p hj => ?_⟩⟩
    have hjl : j < len := by have := (List.getElem?_eq_some_iff.1 hj).1; simpa using this
    have hp : p = q j := by simp [hjl] at hj; exact hj.symm
    subst hp
    exact hq j hjl
theorem el_string {s : TypeId} (hs : P.underlying s = some .string) (n : Nat) (cs : List Value) (y : DataW H × List MemPlace) (h : DataW.trod enc P w base spare held n s cs = some y) : ∃ x, Kd.string.K w x cs := by
  obtain ⟨b, rfl, _⟩ := DataW.trod_string hs h
  exact ⟨b, rfl⟩
theorem el_strings {t s : TypeId} (q : Nat) (ht : P.underlying t = some (.slice s)) (hs : P.underlying s = some .string) (hc : P.cellsOf s = 1) (n : Nat) (cs : List Value) (y : DataW H × List MemPlace) (h : DataW.trod enc P w base spare held n t cs = some y) :
    ∃ x, (Kd.slice q Kd.string).K w x cs := by
  obtain ⟨A, xs, c, rfl, hl, hr⟩ := open_C Kd.string ht hc (el_string hs) h
  exact ⟨xs, A, c, rfl, hl, hr⟩
end
end Go.Proofs.YtodphfcneiodhaaDoor.OpenC
