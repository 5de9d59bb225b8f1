/- Of all texts of at most 3 of at most 9 letters the checks of paths, interfaces and members say what the reference says. -/
import Derived.Test.YtcdbhpmnilfpfaaMFnNmAlld
import Derived.Test.YtcdbhpmnilfpfaaMFnNmAllm
namespace Go.Proofs.Ytcdbhpmnilfpfaa.Pure
open Go Go.RowKit Go.Proofs.Ytcdbhpmnilfpfaa.MFnNmAll Go.Proofs.YtcdbhpmnilfpfaaW.PrintWords Go.Proofs.YtcdbhpmnilfpfaaW.PrintLast Go.Proofs.YtcdbhpmnilfpfaaW.PrintMore Go.Proofs.Ytcdbhpmnilfpfaa.Hlp
open Go.Proofs.Ytcdbhpmnilfpfaa.MFnNmAllp (wi1 rd_at slash_a)
open Go.Proofs.Ytcdbhpmnilfpfaa.MFnNmAlld (idrop_lt idrop_end idrop_next)
set_option linter.unusedVariables false
set_option linter.unusedSimpArgs false

/-- How many texts may still come of one. -/
def wt (z : ByteArray) : Nat := if z.size = 0 then 820 else if z.size = 1 then 91 else if z.size = 2 then 10 else 1
def ws (L : List ByteArray) : Nat := (L.map wt).sum
theorem ws_append (a b : List ByteArray) : ws (a ++ b) = ws a + ws b := by simp [ws]
theorem ws_cons (z : ByteArray) (L : List ByteArray) : ws (z :: L) = wt z + ws L := by simp [ws]
theorem wt_pos (z : ByteArray) : 1 ≤ wt z := by unfold wt; split <;> (try split) <;> (try split) <;> omega
theorem ws_len : ∀ L, L.length ≤ ws L
  | [] => by simp [ws]
  | z :: L => by have := ws_len L; have := wt_pos z; rw [ws_cons, List.length_cons]; omega
theorem ws_same (w : Nat) : ∀ L : List ByteArray, (∀ a ∈ L, wt a = w) → ws L = L.length * w
  | [], _ => by simp [ws]
  | z :: L, h => by
    rw [ws_cons, h z List.mem_cons_self, ws_same w L (fun a ha => h a (List.mem_cons_of_mem _ ha)), List.length_cons, Nat.succ_mul, Nat.add_comm]
theorem less (z : ByteArray) (adds : List ByteArray) (h9 : adds.length ≤ 9) (hs : ∀ a ∈ adds, a.size = z.size + 1) (h3 : ¬ z.size < 3 → adds = []) : ws adds + 1 ≤ wt z := by
  by_cases h : z.size < 3
  · have hcase : z.size = 0 ∨ z.size = 1 ∨ z.size = 2 := by omega
    rcases hcase with h | h | h
    · rw [ws_same 91 adds (fun a ha => by have := hs a ha; unfold wt; rw [if_neg (by omega), if_pos (by omega)])]
      unfold wt; rw [if_pos h]; omega
    · rw [ws_same 10 adds (fun a ha => by have := hs a ha; unfold wt; rw [if_neg (by omega), if_neg (by omega), if_pos (by omega)])]
      unfold wt; rw [if_neg (by omega), if_pos h]; omega
    · rw [ws_same 1 adds (fun a ha => by have := hs a ha; unfold wt; rw [if_neg (by omega), if_neg (by omega), if_neg (by omega)])]
      unfold wt; rw [if_neg (by omega), if_neg (by omega), if_pos h]; omega
  · rw [h3 h]
    have := wt_pos z
    simp only [ws, List.map_nil, List.sum_nil]; omega

/-- The texts that come of one. -/
theorem inner (s : ByteArray) (hs : s.size ≤ 9) (L : List ByteArray) (hL : L.length ≤ 1000000) (i : Nat) (hi : i ≤ 1000000) (z : ByteArray) (hz : z.size ≤ 3) (d : Nat) : ∀ (j : Nat) (adds : List ByteArray), s.size - j = d → j ≤ s.size → adds.length ≤ j → (∀ a ∈ adds, a.size = z.size + 1) → (¬ z.size < 3 → adds = []) →
    (∀ adds : List ByteArray, adds.length ≤ 9 → (∀ a ∈ adds, a.size = z.size + 1) → (¬ z.size < 3 → adds = []) → Ev (fun k => laws_FnNmAll.l0 k s (L ++ adds) ((i + 1 : Nat) : Int)) true) →
    Ev (fun k => laws_FnNmAll.l1 k s (L ++ adds) (i : Int) z (j : Int)) true := by
  induction d using Nat.strongRecOn with
  | _ d ih =>
  intro j adds hd hj ha hsz h3 hk
  by_cases h1 : j < s.size
  · by_cases h2 : z.size < 3
    · have hex : (s.extract j (j + 1)).size = 1 := by rw [← bl_len, bl_extract, List.length_take, List.length_drop, bl_len]; omega
      refine Ev.step (f := fun k => laws_FnNmAll.l1 k s (L ++ (adds ++ [z ++ s.extract j (j + 1)])) (i : Int) z ((j + 1 : Nat) : Int)) (fun k => ?_) (ih (s.size - (j + 1)) (by omega) (j + 1) (adds ++ [z ++ s.extract j (j + 1)]) rfl (by omega) (by simp; omega) ?_ (fun q => absurd h2 q) hk)
      · simp only [laws_FnNmAll.l1]
        rw [if_pos (by omega), if_pos (by omega), wi1 j (by omega), if_pos (by omega), if_pos (by omega), if_pos (by omega), Int.toNat_natCast, Int.toNat_natCast, hex, if_pos (by omega), if_pos (by simp only [List.length_append]; omega), List.append_assoc]
      · intro a hm
        rcases List.mem_append.mp hm with q | q
        · exact hsz a q
        · rw [List.mem_singleton.mp q, ByteArray.size_append, hex]
    · refine Ev.step (fun k => ?_) (hk adds (by omega) hsz h3)
      simp only [laws_FnNmAll.l1]
      rw [if_pos (by omega), if_neg (by omega), wi1 i (by omega)]
  · refine Ev.step (fun k => ?_) (hk adds (by omega) hsz h3)
    simp only [laws_FnNmAll.l1]
    rw [if_neg (by omega), wi1 i (by omega)]

theorem a_b : Ev (fun k => impl_NmInterface.f k (⟨#[97, 46, 98]⟩ : ByteArray)) true := by
  refine Ev.of (impl_NmInterface.mono _) (k := 40) ?_
  decide +kernel
theorem one_a : Ev (fun k => impl_NmMember.f k (⟨#[97]⟩ : ByteArray)) true := by
  refine Ev.of (impl_NmMember.mono _) (k := 40) ?_
  decide +kernel

theorem all (s : ByteArray) (hs : s.size ≤ 9) (d : Nat) : ∀ (L : List ByteArray) (i : Nat), ws (L.drop i) = d → i ≤ L.length → i + d ≤ 820 → (∀ z ∈ L, z.size ≤ 3) → Ev (fun k => laws_FnNmAll.l0 k s L (i : Int)) true := by
  induction d using Nat.strongRecOn with
  | _ d ih =>
  intro L i hd hi hb hsz
  have hlen : L.length ≤ 820 := by
    have := ws_len (L.drop i)
    rw [List.length_drop] at this; omega
  cases hc : L.drop i with
  | nil =>
    have hnl := idrop_end hc
    refine Ev.step (f := fun k => (impl_NmPath.f k (⟨#[47, 97]⟩ : ByteArray)).bind fun t125 => (if t125 = true then ((impl_NmInterface.f k (⟨#[97, 46, 98]⟩ : ByteArray)).bind fun t126 => (if t126 = true then ((impl_NmMember.f k (⟨#[97]⟩ : ByteArray)).bind fun t127 => (some t127)) else (some false))) else (some false))) (fun k => ?_) ?_
    · simp only [laws_FnNmAll.l0]; rw [if_neg (by omega)]
    · exact Ev.bind slash_a (ev_ite_pos rfl (fun _ => rfl) (Ev.bind a_b (ev_ite_pos rfl (fun _ => rfl) (Ev.bind one_a (Ev.now _)))))
  | cons z r =>
    have hlt := idrop_lt hc
    have hz : z.size ≤ 3 := hsz z (List.mem_of_mem_drop (i := i) (by rw [hc]; exact List.mem_cons_self))
    obtain ⟨b1, p1, q1⟩ := Go.Proofs.Ytcdbhpmnilfpfaa.MFnNmAllp.both z (by omega)
    obtain ⟨b2, p2, q2⟩ := Go.Proofs.Ytcdbhpmnilfpfaa.MFnNmAlld.both z (by omega)
    obtain ⟨b3, p3, q3⟩ := Go.Proofs.Ytcdbhpmnilfpfaa.MFnNmAllm.both z (by omega)
    have e : ∀ b : Bool, ¬ (b != b) = true := by intro b; simp
    refine Ev.step (f := fun k => (impl_NmPath.f k z).bind fun t129 => ((spec_ValidPath.f k z).bind fun t130 => (if (t129 != t130) = true then (laws_FnNmAll.j1 k s L (i : Int) z true) else ((impl_NmInterface.f k z).bind fun t131 => ((spec_ValidInterface.f k z).bind fun t132 => (if (t131 != t132) = true then (laws_FnNmAll.j1 k s L (i : Int) z true) else ((impl_NmMember.f k z).bind fun t133 => ((spec_ValidMember.f k z).bind fun t134 => (laws_FnNmAll.j1 k s L (i : Int) z (t133 != t134)))))))))) (fun k => ?_) ?_
    · simp only [laws_FnNmAll.l0]
      rw [if_pos (by omega), if_pos (by omega), rd_at hc]
    refine Ev.bind p1 (Ev.bind q1 (ev_ite_neg (e b1) (fun _ => rfl) (Ev.bind p2 (Ev.bind q2 (ev_ite_neg (e b2) (fun _ => rfl) (Ev.bind p3 (Ev.bind q3 ?_)))))))
    rw [show (b3 != b3) = false by simp]
    refine Ev.step (f := fun k => laws_FnNmAll.l1 k s L (i : Int) z 0) (fun k => ?_) ?_
    · simp only [laws_FnNmAll.j1]; rw [if_neg (by decide)]
    have h := inner s hs L (by omega) i (by omega) z hz s.size 0 [] (by omega) (by omega) (by simp) (by simp) (fun _ => rfl) ?_
    · rw [List.append_nil] at h; exact h
    intro adds h9 has h3
    have hl := less z adds h9 has h3
    rw [hc, ws_cons] at hd
    have hdr : (L ++ adds).drop (i + 1) = r ++ adds := by
      rw [List.drop_append_of_le_length (by omega), idrop_next hc]
    have hw : ws ((L ++ adds).drop (i + 1)) = ws r + ws adds := by rw [hdr, ws_append]
    refine ih (ws r + ws adds) (by omega) (L ++ adds) (i + 1) hw (by simp; omega) (by omega) ?_
    intro a hm
    rcases List.mem_append.mp hm with q | q
    · exact hsz a q
    · by_cases h : z.size < 3
      · have := has a q; omega
      · rw [h3 h] at q; cases q

theorem FnNmAll : laws_FnNmAll.Pure := by
  intro s hs
  apply Ev.rounds
  unfold laws_FnNmAll.f
  by_cases h1 : (s.size : Int) > 2147483647
  · exact ev_ite_pos h1 (fun _ => rfl) (Ev.now _)
  refine ev_ite_neg h1 (fun _ => rfl) ?_
  by_cases h2 : (s.size : Int) > 9
  · exact ev_ite_pos h2 (fun _ => rfl) (Ev.now _)
  refine ev_ite_neg h2 (fun _ => rfl) ?_
  refine all s (by omega) 820 [⟨#[]⟩] 0 ?_ (by simp) (by omega) ?_
  · rw [List.drop_zero]; rfl
  · intro z hz; rw [List.mem_singleton.mp hz]; decide

end Go.Proofs.Ytcdbhpmnilfpfaa.Pure
