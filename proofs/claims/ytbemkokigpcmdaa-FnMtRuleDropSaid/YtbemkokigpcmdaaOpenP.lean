/- How a slice of pairs of texts that came in reads in memory. -/
import Derived.OpenShut
import Derived.Deep.Slices
namespace Go.Proofs.Ytbemkokigpcmdaa.OpenP
open Go Go.Deep Go.ChangeShapes Go.WideShapes

section
variable {H : Type} {enc : TypeId × Value → H} {P : Program} {w : World} {base : Nat} {spare : Nat → Bool} {held : Bool}
theorem open_str_pairs {t e s : TypeId} {fuel : Nat} {cs : List Value} {x : DataW H × List MemPlace} (ht : P.underlying t = some (.slice e)) (he : P.underlying e = some (.array 2 s)) (hs : P.underlying s = some .string)
    (ce : P.cellsOf e = 2) (c1 : P.cellsOf s = 1) (h : DataW.trod enc P w base spare held fuel t cs = some x) :
    cs = [.slice none 0 0] ∨
    ∃ (a : Addr) (len cap : Nat) (F : Nat → ByteArray × ByteArray), cs = [.slice (some a) len cap] ∧ len ≤ cap ∧ cap ≤ maxLen ∧
      ∀ i, i < len → w.cell? (a.add (i * 2)) = some (.string (F i).1) ∧ w.cell? (a.add (i * 2 + 1)) = some (.string (F i).2) := by
  rcases open_slice ht h with h0 | ⟨a, len, cap, m, n, D, Pl, rfl, hb, hl, hm, hmm, rfl, hx⟩
  · exact Or.inl h0.1
  right
  have hlm : len ≤ m := by rw [hmm]; split <;> omega
  have each : ∀ i, i < len → ∃ q : ByteArray × ByteArray, w.cell? (a.add (i * 2)) = some (.string q.1) ∧ w.cell? (a.add (i * 2 + 1)) = some (.string q.2) := by
    intro i hi
    obtain ⟨cs', h1, h2⟩ := hx i (by omega)
    rw [ce] at h1
    obtain ⟨_, hlen, hcell⟩ := World.cells?_some h1
    obtain ⟨xs, k, hk, hxy, _, hxl, hf⟩ := DataW.trod_array he h2
    match xs, hxl, cs', hlen with
    | [y0, y1], _, [v0, v1], _ =>
      have g0 := hf 0 (by omega)
      have g1 := hf 1 (by omega)
      simp [c1] at g0 g1
      have e0 := hcell 0 (by omega)
      have e1 := hcell 1 (by omega)
      rw [add_add] at e0 e1
      obtain ⟨s0, hs0, _⟩ := DataW.trod_string hs g0
      obtain ⟨s1, hs1, _⟩ := DataW.trod_string hs g1
      injection hs0 with hs0
      injection hs1 with hs1
      subst hs0 hs1
      exact ⟨(s0, s1), by simpa using e0, by simpa using e1⟩
  obtain ⟨q, hq⟩ := choose_lt each
  exact ⟨a, len, cap, q, rfl, hl, hm, hq⟩
end
end Go.Proofs.Ytbemkokigpcmdaa.OpenP
