/- Two texts that can be read as values of addresses are read one behind the other as both; where one cannot, and the first does not end within an escape, both together cannot. -/
import Derived.Test.YtpgpkdickcdlpaaMFnAdReadJoinu
namespace Go.Proofs.Ytpgpkdickcdlpaa.Pure
open Go Go.RowKit Go.Proofs.Ytpgpkdickcdlpaa.MFnAdReadJoin Go.Proofs.YtpgpkdickcdlpaaW.PrintWords Go.Proofs.YtpgpkdickcdlpaaW.PrintLast Go.Proofs.YtpgpkdickcdlpaaW.PrintMore Go.Proofs.Ytpgpkdickcdlpaa.Hlp Go.Proofs.Ytpgpkdickcdlpaa.MFnAdReadJoinu
set_option linter.unusedVariables false

/-- No escape is cut at the end. -/
def Whole (l : List UInt8) : Prop := ∀ p q, l = p ++ 37 :: q → 2 ≤ q.length
theorem Whole.tail {c : UInt8} {l : List UInt8} (h : Whole (c :: l)) : Whole l := fun p q e => h (c :: p) q (by rw [e]; rfl)
theorem un_join (y : List UInt8) (n : Nat) : ∀ x : List UInt8, x.length = n → Whole x → un (x ++ y) = (un x).bind fun l => (un y).map fun m => l ++ m := by
  induction n using Nat.strongRecOn with
  | _ n ih =>
  intro x hx hw
  cases x with
  | nil => simp [un]
  | cons c r =>
    simp only [List.length_cons] at hx
    by_cases h37 : c = 37
    · subst h37
      have h2 := hw [] r rfl
      match r, h2, hx, hw with
      | a :: b :: q, _, hx, hw =>
        simp only [List.cons_append, un_esc]
        by_cases ha : (hex a).2 = true
        · by_cases hb : (hex b).2 = true
          · rw [if_pos ha, if_pos hb, if_pos ha, if_pos hb, ih q.length (by simp at hx; omega) q rfl hw.tail.tail.tail]
            cases un q <;> cases un y <;> simp
          · rw [if_pos ha, if_neg hb, if_pos ha, if_neg hb]; rfl
        · rw [if_neg ha, if_neg ha]; rfl
    · rw [List.cons_append, un_plain h37, un_plain h37, ih r.length (by omega) r rfl hw.tail]
      cases un r <;> cases un y <;> simp
theorem join_nums (l m : List Int) : strOfNums (l ++ m) = strOfNums l ++ strOfNums m := bl_ext (by rw [bl_append]; simp [bl, strOfNums])
theorem ab : Ev (fun k => impl_AdUnescape.f k (⟨#[37, 52, 49]⟩ : ByteArray)) (⟨#[65]⟩, true) := by
  have h := unescape ⟨#[37, 52, 49]⟩ (by decide)
  have e : told (un (bl ⟨#[37, 52, 49]⟩)) = (⟨#[65]⟩, true) := by
    have : un (bl ⟨#[37, 52, 49]⟩) = some [65] := by decide +kernel
    rw [this]; rfl
  rw [e] at h; exact h
theorem whole_of (s : ByteArray) (hs : s.size ≤ 100000) (h1 : 0 < s.size → bt s ((s.size - 1 : Nat) : Int) ≠ 37) (h2 : 1 < s.size → bt s ((s.size - 2 : Nat) : Int) ≠ 37) : Whole (bl s) := by
  intro p q e
  have hl : s.size = p.length + 1 + q.length := by rw [← bl_len, e]; simp; omega
  have hb : bt s (p.length : Int) = 37 := by rw [bt_getD, e]; simp
  match q, hl with
  | [], hl => exact absurd (by rw [show s.size - 1 = p.length by simp at hl; omega]; exact hb) (h1 (by omega))
  | [a], hl => exact absurd (by rw [show s.size - 2 = p.length by simp at hl; omega]; exact hb) (h2 (by simp at hl; omega))
  | a :: b :: q, _ => simp

theorem join_main (a b : ByteArray) (ha : a.size ≤ 4096) (hb : b.size ≤ 4096) (hw : Whole (bl a)) : Ev (fun k => laws_FnAdReadJoin.j1 k a b false) true := by
  have hA := unescape a (by omega)
  have hB := unescape b (by omega)
  have hsz : (a ++ b).size = a.size + b.size := ByteArray.size_append
  have hC := unescape (a ++ b) (by omega)
  rw [bl_append, un_join (bl b) _ (bl a) rfl hw] at hC
  have hlen : ∀ (n : Nat) (x : List UInt8) (l : List Int), x.length = n → un x = some l → l.length ≤ x.length := by
    intro n
    induction n using Nat.strongRecOn with
    | _ n ih =>
    intro x l hx h
    cases x with
    | nil => simp [un] at h; simp [← h]
    | cons c r =>
      simp only [List.length_cons] at hx ⊢
      by_cases h37 : c = 37
      · subst h37
        match r, hx, h with
        | [], hx, h => simp [un] at h
        | [d], hx, h => simp [un] at h
        | u :: v :: q, hx, h =>
          rw [un_esc] at h
          split at h
          · split at h
            · cases hq : un q with
              | none => rw [hq] at h; cases h
              | some m =>
                rw [hq] at h
                have h2 := ih q.length (by simp at hx; omega) q m rfl hq
                obtain rfl := Option.some.inj h
                simp; omega
            · cases h
          · cases h
      · rw [un_plain h37] at h
        cases hq : un r with
        | none => rw [hq] at h; cases h
        | some m =>
          rw [hq] at h
          have h2 := ih r.length (by omega) r m rfl hq
          obtain rfl := Option.some.inj h
          simp; omega
  refine Ev.step (f := fun k => (impl_AdUnescape.f k a).bind fun bt105 => ((impl_AdUnescape.f k b).bind fun bt107 => (if a.size + b.size ≤ 9223372036854775807 then ((impl_AdUnescape.f k (a ++ b)).bind fun bt109 => ((impl_AdUnescape.f k (⟨#[37, 52, 49]⟩ : ByteArray)).bind fun bt111 => (if bt105.2 = true then (if (bt109.2 == bt107.2) = true then (if bt109.2 = true then (if bt105.1.size + bt107.1.size ≤ 9223372036854775807 then (if bt109.1.toList = (bt105.1 ++ bt107.1).toList then (if bt111.2 = true then (some (bt111.1.toList == ([65] : List UInt8))) else (some false)) else (some false)) else (none)) else (if bt111.2 = true then (some (bt111.1.toList == ([65] : List UInt8))) else (some false))) else (some false)) else (if (bt109.2 == false) = true then (if bt109.2 = true then (if bt105.1.size + bt107.1.size ≤ 9223372036854775807 then (if bt109.1.toList = (bt105.1 ++ bt107.1).toList then (if bt111.2 = true then (some (bt111.1.toList == ([65] : List UInt8))) else (some false)) else (some false)) else (none)) else (if bt111.2 = true then (some (bt111.1.toList == ([65] : List UInt8))) else (some false))) else (some false))))) else (none)))) (fun k => ?_) ?_
  · simp only [laws_FnAdReadJoin.j1]; rw [if_neg (by decide)]
  have h65 : ((⟨#[65]⟩ : ByteArray).toList == ([65] : List UInt8)) = true := by rw [toList_bl]; rfl
  have fin : Ev (fun _ => some ((⟨#[65]⟩ : ByteArray).toList == ([65] : List UInt8))) true := by rw [h65]; exact Ev.now _
  refine Ev.bind hA (Ev.bind hB (ev_ite_pos (by omega) (fun _ => rfl) (Ev.bind hC (Ev.bind ab ?_))))
  cases hu : un (bl a) with
  | some l =>
    have hl := hlen _ _ _ rfl hu
    cases hv : un (bl b) with
    | some m =>
      have hm := hlen _ _ _ rfl hv
      rw [bl_len] at hl hm
      refine ev_ite_pos rfl (fun _ => rfl) (ev_ite_pos rfl (fun _ => rfl) (ev_ite_pos rfl (fun _ => rfl) (ev_ite_pos ?_ (fun _ => rfl) (ev_ite_pos ?_ (fun _ => rfl) (ev_ite_pos rfl (fun _ => rfl) fin)))))
      · show (strOfNums l).size + (strOfNums m).size ≤ 9223372036854775807
        rw [strOfNums_size, strOfNums_size]; omega
      · show (strOfNums (l ++ m)).toList = (strOfNums l ++ strOfNums m).toList
        rw [join_nums]
    | none =>
      exact ev_ite_pos rfl (fun _ => rfl) (ev_ite_pos rfl (fun _ => rfl) (ev_ite_neg (show ¬ (false = true) by decide) (fun _ => rfl) (ev_ite_pos rfl (fun _ => rfl) fin)))
  | none =>
    exact ev_ite_neg (show ¬ (false = true) by decide) (fun _ => rfl) (ev_ite_pos rfl (fun _ => rfl) (ev_ite_neg (show ¬ (false = true) by decide) (fun _ => rfl) (ev_ite_pos rfl (fun _ => rfl) fin)))

theorem FnAdReadJoin : laws_FnAdReadJoin.Pure := by
  intro a b ha hb
  apply Ev.rounds
  have fin : ∀ x1, x1 = true → Ev (fun k => laws_FnAdReadJoin.j1 k a b x1) true := by
    intro x1 h
    refine Ev.step (f := fun _ => some true) (fun k => ?_) (Ev.now _)
    simp only [laws_FnAdReadJoin.j1]; rw [if_pos h]
  have j0t : Ev (fun k => laws_FnAdReadJoin.j0 k a b true) true := by
    refine Ev.step (f := fun _ => some true) (fun k => ?_) (Ev.now _)
    simp only [laws_FnAdReadJoin.j0]; exact if_pos trivial
  have main : Ev (fun k => laws_FnAdReadJoin.j0 k a b false) true := by
    by_cases h1 : (a.size : Int) > 4096
    · refine Ev.step (fun k => ?_) (fin true rfl)
      simp only [laws_FnAdReadJoin.j0]; rw [if_neg (by decide), if_pos h1]
    by_cases h2 : (b.size : Int) > 4096
    · refine Ev.step (fun k => ?_) (fin true rfl)
      simp only [laws_FnAdReadJoin.j0]; rw [if_neg (by decide), if_neg h1, if_pos h2]
    by_cases z0 : 0 < a.size
    · have w1 : wrap64 ((a.size : Int) - 1) = ((a.size - 1 : Nat) : Int) := by rw [wj (by omega) (by omega)]; omega
      by_cases p1 : bt a ((a.size - 1 : Nat) : Int) = 37
      · refine Ev.step (fun k => ?_) (fin true rfl)
        simp only [laws_FnAdReadJoin.j0]; rw [if_neg (by decide), if_neg h1, if_neg h2, if_pos (by omega), w1, if_pos (by omega), if_pos (by omega), if_pos p1]
      by_cases z1 : 1 < a.size
      · have w2 : wrap64 ((a.size : Int) - 2) = ((a.size - 2 : Nat) : Int) := by rw [wj (by omega) (by omega)]; omega
        have st : ∀ k, laws_FnAdReadJoin.j0 (k + 1) a b false = laws_FnAdReadJoin.j1 k a b (bt a ((a.size - 2 : Nat) : Int) == 37) := by
          intro k
          simp only [laws_FnAdReadJoin.j0]; rw [if_neg (by decide), if_neg h1, if_neg h2, if_pos (by omega), w1, if_pos (by omega), if_pos (by omega), if_neg p1, if_pos (by omega), w2, if_pos (by omega), if_pos (by omega)]
        refine Ev.step st ?_
        cases p2 : (bt a ((a.size - 2 : Nat) : Int) == 37) with
        | true => exact fin _ rfl
        | false => exact join_main a b (by omega) (by omega) (whole_of a (by omega) (fun _ => p1) (fun _ => beq_eq_false_iff_ne.mp p2))
      · refine Ev.step (fun k => ?_) (join_main a b (by omega) (by omega) (whole_of a (by omega) (fun _ => p1) (fun q => absurd q z1)))
        simp only [laws_FnAdReadJoin.j0]; rw [if_neg (by decide), if_neg h1, if_neg h2, if_pos (by omega), w1, if_pos (by omega), if_pos (by omega), if_neg p1, if_neg (by omega)]
    · refine Ev.step (fun k => ?_) (join_main a b (by omega) (by omega) (whole_of a (by omega) (fun q => absurd q z0) (fun q => by omega)))
      simp only [laws_FnAdReadJoin.j0]; rw [if_neg (by decide), if_neg h1, if_neg h2, if_neg (by omega), if_neg (by omega)]
  unfold laws_FnAdReadJoin.f
  by_cases h1 : (a.size : Int) > 2147483647
  · exact ev_ite_pos h1 (fun _ => rfl) j0t
  · refine ev_ite_neg h1 (fun _ => rfl) ?_
    by_cases h2 : (b.size : Int) > 2147483647
    · rw [decide_eq_true h2]; exact j0t
    · rw [decide_eq_false h2]; exact main

end Go.Proofs.Ytpgpkdickcdlpaa.Pure
