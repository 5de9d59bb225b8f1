/- The split at points, what the package and the reference say of an interface's name. -/
import Derived.Test.YtcdbhpmnilfpfaaMFnNmAllp
import Derived.Test.YtcdbhpmnilfpfaaMFnNmAllw
namespace Go.Proofs.Ytcdbhpmnilfpfaa.MFnNmAlld
open Go Go.RowKit Go.Proofs.Ytcdbhpmnilfpfaa.MFnNmAll Go.Proofs.YtcdbhpmnilfpfaaW.PrintWords Go.Proofs.YtcdbhpmnilfpfaaW.PrintLast Go.Proofs.YtcdbhpmnilfpfaaW.PrintMore Go.Proofs.Ytcdbhpmnilfpfaa.Hlp
open Go.Proofs.Ytcdbhpmnilfpfaa.MFnNmAllp (num_eq at_drop lt_drop end_drop next_drop wi1 Mem member_f word_f mem rd_at)
set_option linter.unusedVariables false
set_option linter.unusedSimpArgs false

/-- The parts between points. -/
def sp : List UInt8 → List (List UInt8)
  | [] => [[]]
  | c :: r => if c = 46 then [] :: sp r else match sp r with
    | h :: T => (c :: h) :: T
    | [] => [[c]]
theorem sp_ne : ∀ l, sp l ≠ []
  | [] => by simp [sp]
  | c :: r => by
    rw [sp]
    split
    · simp
    · split <;> simp
theorem sp_one : ∀ l : List UInt8, 46 ∉ l → sp l = [l]
  | [], _ => rfl
  | c :: r, h => by
    rw [sp, if_neg (fun q => h (by rw [q]; exact List.mem_cons_self)), sp_one r (fun q => h (List.mem_cons_of_mem _ q))]
theorem sp_cut (post : List UInt8) : ∀ pre : List UInt8, 46 ∉ pre → sp (pre ++ 46 :: post) = pre :: sp post
  | [], _ => by rw [List.nil_append, sp, if_pos rfl]
  | c :: r, h => by
    rw [List.cons_append, sp, if_neg (fun q => h (by rw [q]; exact List.mem_cons_self)), sp_cut post r (fun q => h (List.mem_cons_of_mem _ q))]
/-! The search and the split. -/
theorem idx (s : ByteArray) (hs : s.size ≤ 100000) (d : Nat) : ∀ i : Nat, s.size - i = d → i ≤ s.size → ∃ r : Int, Ev (fun k => dbus_zzIndex.l0 k s ⟨#[46]⟩ (i : Int)) r ∧
    ((r = -1 ∧ 46 ∉ (bl s).drop i) ∨ ∃ pre post, (bl s).drop i = pre ++ 46 :: post ∧ 46 ∉ pre ∧ r = ((i + pre.length : Nat) : Int)) := by
  induction d using Nat.strongRecOn with
  | _ d ih =>
  intro i hd hi
  have e1 : (((⟨#[46]⟩ : ByteArray).size : Nat) : Int) = 1 := rfl
  have e5 : (⟨#[46]⟩ : ByteArray).toList = [46] := by rw [toList_bl]; rfl
  cases hc : (bl s).drop i with
  | nil =>
    have hnl := end_drop hc
    refine ⟨-1, Ev.step (f := fun _ => some (-1)) (fun k => ?_) (Ev.now _), .inl ⟨rfl, by simp⟩⟩
    simp only [dbus_zzIndex.l0, e1]
    rw [wi1 i (by omega), if_neg (by omega)]
  | cons c r =>
    have hlt := lt_drop hc
    have hw : (s.extract i (i + 1)).toList = [46] ↔ c = 46 := by
      rw [one_byte s i (by omega) 46, at_drop hc]; exact num_eq 46
    by_cases h : c = 46
    · subst h
      refine ⟨(i : Int), Ev.step (f := fun _ => some (i : Int)) (fun k => ?_) (Ev.now _), .inr ⟨[], r, rfl, by simp, by simp⟩⟩
      simp only [dbus_zzIndex.l0, e1]
      rw [wi1 i (by omega), if_pos (by omega), if_pos (by omega), if_pos (by omega), Int.toNat_natCast, Int.toNat_natCast, e5, if_pos (hw.mpr rfl)]
    · obtain ⟨x, hx, hx2⟩ := ih (s.size - (i + 1)) (by omega) (i + 1) rfl (by omega)
      refine ⟨x, Ev.step (f := fun k => dbus_zzIndex.l0 k s ⟨#[46]⟩ ((i + 1 : Nat) : Int)) (fun k => ?_) hx, ?_⟩
      · simp only [dbus_zzIndex.l0, e1]
        rw [wi1 i (by omega), if_pos (by omega), if_pos (by omega), if_pos (by omega), Int.toNat_natCast, Int.toNat_natCast, e5, if_neg (fun q => h (hw.mp q))]
      · rw [next_drop hc] at hx2
        rcases hx2 with ⟨h1, h2⟩ | ⟨pre, post, h1, h2, h3⟩
        · refine .inl ⟨h1, fun q => ?_⟩
          rcases List.mem_cons.mp q with q | q
          · exact h q.symm
          · exact h2 q
        · refine .inr ⟨c :: pre, post, by rw [h1]; rfl, fun q => ?_, by rw [h3]; simp only [List.length_cons]; omega⟩
          rcases List.mem_cons.mp q with q | q
          · exact h q.symm
          · exact h2 q
theorem split (m : Nat) : ∀ (t : ByteArray) (acc : List ByteArray), t.size = m → t.size ≤ 100000 → acc.length + m ≤ 1000000 → ∃ L : List ByteArray, Ev (fun k => dbus_zzSplit.l1 k t ⟨#[46]⟩ acc) (acc ++ L) ∧ L.map bl = sp (bl t) ∧ L.length ≤ m + 1 := by
  induction m using Nat.strongRecOn with
  | _ m ih =>
  intro t acc hm hs ha
  obtain ⟨r, hr, hr2⟩ := idx t hs t.size 0 (by omega) (by omega)
  rw [List.drop_zero] at hr2
  have e1 : (((⟨#[46]⟩ : ByteArray).size : Nat) : Int) = 1 := rfl
  have st : ∀ k, dbus_zzSplit.l1 (k + 1) t ⟨#[46]⟩ acc = (dbus_zzIndex.f k t ⟨#[46]⟩).bind fun t107 => (if t107 < 0 then (if acc.length < 8796093022208 then (some (acc ++ [t])) else (none)) else (if 0 ≤ t107 then (if t107 ≤ (t.size : Int) then (if acc.length < 8796093022208 then (if 0 ≤ (wrap64 (t107 + 1)) then (if (wrap64 (t107 + 1)) ≤ (t.size : Int) then (dbus_zzSplit.l1 k (t.extract ((wrap64 (t107 + 1)) : Int).toNat t.size) ⟨#[46]⟩ (acc ++ [t.extract 0 (t107 : Int).toNat])) else (none)) else (none)) else (none)) else (none)) else (none))) := by
    intro k; simp only [dbus_zzSplit.l1, e1]
  rcases hr2 with ⟨h1, h2⟩ | ⟨pre, post, h1, h2, h3⟩
  · subst h1
    refine ⟨[t], Ev.step st (Ev.bind (g := fun k => dbus_zzIndex.f k t ⟨#[46]⟩) hr (ev_ite_pos (by omega) (fun _ => rfl) (ev_ite_pos (by omega) (fun _ => rfl) (Ev.now _)))), ?_, by simp⟩
    rw [sp_one _ h2]; rfl
  · have hsz : t.size = pre.length + 1 + post.length := by rw [← bl_len, h1]; simp; omega
    rw [Nat.zero_add] at h3
    have hb2 : bl (t.extract (pre.length + 1) t.size) = post := by
      rw [bl_extract, h1, List.take_of_length_le (by simp; omega)]
      simp
    have hz : (t.extract (pre.length + 1) t.size).size = post.length := by rw [← bl_len, hb2]
    obtain ⟨L, hL, hL2, hL3⟩ := ih post.length (by omega) (t.extract (pre.length + 1) t.size) (acc ++ [t.extract 0 pre.length]) hz (by omega) (by simp; omega)
    refine ⟨t.extract 0 pre.length :: L, Ev.step st (Ev.bind (g := fun k => dbus_zzIndex.f k t ⟨#[46]⟩) hr ?_), ?_, by simp only [List.length_cons]; omega⟩
    · subst h3
      rw [wi1 pre.length (by omega)]
      refine ev_ite_neg (by omega) (fun _ => rfl) (ev_ite_pos (by omega) (fun _ => rfl) (ev_ite_pos (by omega) (fun _ => rfl) (ev_ite_pos (by omega) (fun _ => rfl) (ev_ite_pos (by omega) (fun _ => rfl) (ev_ite_pos (by omega) (fun _ => rfl) ?_)))))
      rw [Int.toNat_natCast, Int.toNat_natCast]
      have e : acc ++ t.extract 0 pre.length :: L = (acc ++ [t.extract 0 pre.length]) ++ L := by simp
      rw [e]; exact hL
    · rw [List.map_cons, hL2, hb2, h1, sp_cut _ _ h2, bl_extract, h1]
      simp

/-! The package's walk over the parts. -/
theorem runes (L : List ByteArray) (m q : Int) (v : ByteArray) (d : Nat) : ∀ pos : Nat, v.size - pos = d → pos ≤ v.size →
    (((bl v).drop pos).all mem = true → ∀ r, Ev (fun k => dbus_isValidInterface.l0 k L m (wrap64 (q + 1))) r → Ev (fun k => dbus_isValidInterface.l1 k L m q v (pos : Int)) r) ∧
    (((bl v).drop pos).all mem = false → Ev (fun k => dbus_isValidInterface.l1 k L m q v (pos : Int)) false) := by
  induction d using Nat.strongRecOn with
  | _ d ih =>
  intro pos hd hp
  cases hc : (bl v).drop pos with
  | nil =>
    have hnl := end_drop hc
    refine ⟨fun _ r hr => Ev.step (fun k => ?_) hr, fun h => by simp at h⟩
    simp only [dbus_isValidInterface.l1, Int.toNat_natCast]; rw [if_neg hnl]
  | cons c z =>
    have hlt := lt_drop hc
    have hb := at_drop hc
    by_cases h128 : bt v pos < 128
    · obtain ⟨h1, h2⟩ := dec_lo v pos (by omega) h128
      obtain ⟨y, n⟩ := ih (v.size - (pos + 1)) (by omega) (pos + 1) rfl (by omega)
      rw [next_drop hc] at y n
      by_cases hm : mem c = true
      · have hM : decide (Mem (bt v pos)) = true := by rw [hb]; exact hm
        have st : ∀ k, dbus_isValidInterface.l1 (k + 1) L m q v (pos : Int) = dbus_isValidInterface.l1 k L m q v ((pos + 1 : Nat) : Int) := by
          intro k
          simp only [dbus_isValidInterface.l1, Int.toNat_natCast]
          rw [if_pos (by omega), h1, h2, member_f, hM]; rfl
        rw [List.all_cons, hm, Bool.true_and]
        exact ⟨fun h r hr => Ev.step st (y h r hr), fun h => Ev.step st (n h)⟩
      · have hM : decide (Mem (bt v pos)) = false := by rw [hb]; exact Bool.eq_false_iff.mpr hm
        refine ⟨fun h => absurd h (by rw [List.all_cons, Bool.eq_false_iff.mpr hm]; simp), fun _ => Ev.step (f := fun _ => some false) (fun k => ?_) (Ev.now _)⟩
        simp only [dbus_isValidInterface.l1, Int.toNat_natCast]
        rw [if_pos (by omega), h1, member_f, hM]; rfl
    · obtain ⟨h1, h2⟩ := dec_hi v pos (by omega) (by omega)
      have hM : ¬ Mem ((Utf8.decode v pos).1 : Int) := by unfold Mem; omega
      have hm : mem c = false := decide_eq_false (by unfold Mem; rw [← hb]; omega)
      refine ⟨fun h => absurd h (by rw [List.all_cons, hm]; simp), fun _ => Ev.step (f := fun _ => some false) (fun k => ?_) (Ev.now _)⟩
      simp only [dbus_isValidInterface.l1, Int.toNat_natCast]
      rw [if_pos (by omega), member_f, decide_eq_false hM]; rfl

def dig (p : List UInt8) : Bool := match p with
  | c :: _ => decide (48 ≤ (c.toNat : Int)) && decide ((c.toNat : Int) ≤ 57)
  | [] => false
def gdi (L : List (List UInt8)) : Bool := L.all fun p => !p.isEmpty && (!dig p && p.all mem)
theorem dig_at {z : ByteArray} (hz : ¬ z.size = 0) : dig (bl z) = (decide (48 ≤ bt z 0) && decide (bt z 0 ≤ 57)) := by
  cases h : bl z with
  | nil => exact absurd (by rw [← bl_len, h]; rfl) hz
  | cons c r =>
    have : bt z 0 = (c.toNat : Int) := at_drop (s := z) (p := 0) (r := r) (by rw [List.drop_zero]; exact h)
    rw [this]; rfl
theorem ne_at {z : ByteArray} (hz : ¬ z.size = 0) : (bl z).isEmpty = false := by
  cases h : bl z with
  | nil => exact absurd (by rw [← bl_len, h]; rfl) hz
  | cons a b => rfl
theorem gdi_cons (p : List UInt8) (L : List (List UInt8)) : gdi (p :: L) = ((!p.isEmpty && (!dig p && p.all mem)) && gdi L) := by simp [gdi]
theorem idrop_lt {L : List ByteArray} {i : Nat} {z : ByteArray} {r : List ByteArray} (h : L.drop i = z :: r) : i < L.length := by
  have := congrArg List.length h
  rw [List.length_drop] at this
  simp at this; omega
theorem idrop_end {L : List ByteArray} {i : Nat} (h : L.drop i = []) : ¬ i < L.length := by
  have := congrArg List.length h
  rw [List.length_drop] at this
  simp at this; omega
theorem idrop_next {L : List ByteArray} {i : Nat} {z : ByteArray} {r : List ByteArray} (h : L.drop i = z :: r) : L.drop (i + 1) = r := by
  rw [← List.drop_drop, h]; rfl
theorem parts (L : List ByteArray) (hL : L.length ≤ 1000000) (d : Nat) : ∀ i : Nat, L.length - i = d → i ≤ L.length → Ev (fun k => dbus_isValidInterface.l0 k L (L.length : Int) (i : Int)) (gdi ((L.drop i).map bl)) := by
  induction d using Nat.strongRecOn with
  | _ d ih =>
  intro i hd hi
  cases hc : L.drop i with
  | nil =>
    have hnl := idrop_end hc
    refine Ev.step (f := fun _ => some true) (fun k => ?_) (Ev.now _)
    simp only [dbus_isValidInterface.l0]; rw [if_neg (by omega)]
  | cons z r =>
    have hlt := idrop_lt hc
    have h2 := ih (L.length - (i + 1)) (by omega) (i + 1) rfl (by omega)
    rw [idrop_next hc] at h2
    rw [List.map_cons, gdi_cons]
    by_cases hz : z.size = 0
    · have e : bl z = [] := List.eq_nil_of_length_eq_zero hz
      rw [e]
      refine Ev.step (f := fun _ => some false) (fun k => ?_) (Ev.now _)
      simp only [dbus_isValidInterface.l0]
      rw [if_pos (by omega), if_pos (by omega), if_pos (by omega), rd_at hc, if_pos (by omega)]
    · have st : ∀ k, dbus_isValidInterface.l0 (k + 1) L (L.length : Int) (i : Int) = dbus_isValidInterface.j2 k z L (L.length : Int) (i : Int) (dig (bl z)) := by
        intro k
        simp only [dbus_isValidInterface.l0]
        rw [if_pos (by omega), if_pos (by omega), if_pos (by omega), rd_at hc, if_neg (by omega), if_pos (by omega), dig_at hz]
        by_cases h48 : 48 ≤ bt z 0
        · rw [if_pos (by omega), decide_eq_true h48, Bool.true_and]
        · rw [if_neg (by omega), decide_eq_false h48, Bool.false_and]
      obtain ⟨y, n⟩ := runes L (L.length : Int) (i : Int) z z.size 0 (by omega) (by omega)
      rw [List.drop_zero] at y n
      rw [ne_at hz]
      refine Ev.step st ?_
      cases hdg : dig (bl z) with
      | true =>
        refine Ev.step (f := fun _ => some false) (fun k => ?_) (Ev.now _)
        simp only [dbus_isValidInterface.j2]; rw [if_pos trivial]
      | false =>
        refine Ev.step (f := fun k => dbus_isValidInterface.l1 k L (L.length : Int) (i : Int) z 0) (fun k => ?_) ?_
        · simp only [dbus_isValidInterface.j2]; rw [if_neg (by decide)]
        · cases ha : (bl z).all mem with
          | true =>
            simp only [Bool.not_false, Bool.true_and]
            refine y ha _ ?_
            rw [wi1 i (by omega)]; exact h2
          | false => exact n ha

/-! The reference's walk. -/
theorem bytesN (L : List ByteArray) (m q : Int) (v : ByteArray) (hv : v.size ≤ 100000) (d : Nat) : ∀ i : Nat, v.size - i = d → i ≤ v.size →
    (((bl v).drop i).all mem = true → ∀ r, Ev (fun k => spec_named.l0 k false false L m (wrap64 (q + 1))) r → Ev (fun k => spec_named.l1 k false false v (i : Int) L m q) r) ∧
    (((bl v).drop i).all mem = false → Ev (fun k => spec_named.l1 k false false v (i : Int) L m q) false) := by
  induction d using Nat.strongRecOn with
  | _ d ih =>
  intro i hd hi
  cases hc : (bl v).drop i with
  | nil =>
    have hnl := end_drop hc
    refine ⟨fun _ r hr => Ev.step (fun k => ?_) hr, fun h => by simp at h⟩
    simp only [spec_named.l1]; rw [if_neg (by omega)]
  | cons c z =>
    have hlt := lt_drop hc
    obtain ⟨y, n⟩ := ih (v.size - (i + 1)) (by omega) (i + 1) rfl (by omega)
    rw [next_drop hc] at y n
    by_cases hm : mem c = true
    · have st : ∀ k, spec_named.l1 (k + 1) false false v (i : Int) L m q = spec_named.l1 k false false v ((i + 1 : Nat) : Int) L m q := by
        intro k
        simp only [spec_named.l1]
        rw [if_pos (by omega), if_pos (by omega), at_drop hc, word_f, wi1 i (by omega)]
        show (if mem c = true then _ else _) = _
        rw [if_pos hm]
      rw [List.all_cons, hm, Bool.true_and]
      exact ⟨fun h r hr => Ev.step st (y h r hr), fun h => Ev.step st (n h)⟩
    · refine ⟨fun h => absurd h (by rw [List.all_cons, Bool.eq_false_iff.mpr hm]; simp), fun _ => Ev.step (f := fun _ => some false) (fun k => ?_) (Ev.now _)⟩
      simp only [spec_named.l1]
      rw [if_pos (by omega), if_pos (by omega), at_drop hc, word_f]
      show (if mem c = true then _ else _) = _
      rw [if_neg hm, if_neg (by decide)]
theorem partsN (L : List ByteArray) (hL : L.length ≤ 1000000) (hz : ∀ z ∈ L, z.size ≤ 100000) (d : Nat) : ∀ i : Nat, L.length - i = d → i ≤ L.length → Ev (fun k => spec_named.l0 k false false L (L.length : Int) (i : Int)) (gdi ((L.drop i).map bl)) := by
  induction d using Nat.strongRecOn with
  | _ d ih =>
  intro i hd hi
  cases hc : L.drop i with
  | nil =>
    have hnl := idrop_end hc
    refine Ev.step (f := fun _ => some true) (fun k => ?_) (Ev.now _)
    simp only [spec_named.l0]; rw [if_neg (by omega)]
  | cons z r =>
    have hlt := idrop_lt hc
    have hzs : z.size ≤ 100000 := hz z (List.mem_of_mem_drop (i := i) (by rw [hc]; exact List.mem_cons_self))
    have h2 := ih (L.length - (i + 1)) (by omega) (i + 1) rfl (by omega)
    rw [idrop_next hc] at h2
    rw [List.map_cons, gdi_cons]
    have j1f : Ev (fun k => spec_named.j1 k false false z L (L.length : Int) (i : Int) true) false := Ev.step (f := fun _ => some false) (fun k => by simp only [spec_named.j1]; exact if_pos trivial) (Ev.now _)
    by_cases h0 : z.size = 0
    · have e : bl z = [] := List.eq_nil_of_length_eq_zero h0
      rw [e]
      refine Ev.step (fun k => ?_) j1f
      simp only [spec_named.l0]
      rw [if_pos (by omega), if_pos (by omega), if_pos (by omega), rd_at hc, if_pos ((emp_iff z).mpr h0)]
    · have st : ∀ k, spec_named.l0 (k + 1) false false L (L.length : Int) (i : Int) = spec_named.j1 k false false z L (L.length : Int) (i : Int) (dig (bl z)) := by
        intro k
        simp only [spec_named.l0]
        rw [if_pos (by omega), if_pos (by omega), if_pos (by omega), rd_at hc, if_neg (fun q => h0 ((emp_iff z).mp q)), if_neg (by decide), if_pos (by omega), dig_at h0]
        by_cases h48 : 48 ≤ bt z 0
        · rw [if_pos (by omega), decide_eq_true h48, Bool.true_and]
        · rw [if_neg (by omega), decide_eq_false h48, Bool.false_and]
      obtain ⟨y, n⟩ := bytesN L (L.length : Int) (i : Int) z hzs z.size 0 (by omega) (by omega)
      rw [List.drop_zero] at y n
      rw [ne_at h0]
      refine Ev.step st ?_
      cases hdg : dig (bl z) with
      | true => exact j1f
      | false =>
        refine Ev.step (f := fun k => spec_named.l1 k false false z 0 L (L.length : Int) (i : Int)) (fun k => ?_) ?_
        · simp only [spec_named.j1]; rw [if_neg (by decide)]
        · cases ha : (bl z).all mem with
          | true =>
            simp only [Bool.not_false, Bool.true_and]
            refine y ha _ ?_
            rw [wi1 i (by omega)]; exact h2
          | false => exact n ha
/-- The reference's split. -/
theorem splitS (s : ByteArray) (hs : s.size ≤ 100000) (d : Nat) : ∀ (i fr : Nat) (acc : List ByteArray) (pre : List UInt8), s.size - i = d → i ≤ s.size → fr ≤ i → acc.length ≤ i → (bl s).drop fr = pre ++ (bl s).drop i → pre.length = i - fr → 46 ∉ pre →
    ∃ L : List ByteArray, Ev (fun k => spec_Split.l0 k s 46 acc (fr : Int) (i : Int)) (acc ++ L) ∧ L.map bl = sp ((bl s).drop fr) ∧ L.length ≤ s.size + 1 - i := by
  induction d using Nat.strongRecOn with
  | _ d ih =>
  intro i fr acc pre hd hi hf ha hp hpl hno
  cases hc : (bl s).drop i with
  | nil =>
    have hnl := end_drop hc
    rw [hc, List.append_nil] at hp
    refine ⟨[s.extract fr s.size], Ev.step (f := fun _ => some (acc ++ [s.extract fr s.size])) (fun k => ?_) (Ev.now _), ?_, by simp; omega⟩
    · simp only [spec_Split.l0]
      rw [if_neg (by omega), if_pos (by omega), if_pos (by omega), if_pos (by omega), Int.toNat_natCast]
    · rw [hp, sp_one pre hno]
      simp only [List.map_cons, List.map_nil]
      rw [bl_extract, hp, List.take_of_length_le (by omega)]
  | cons c r =>
    have hlt := lt_drop hc
    rw [hc] at hp
    by_cases h : c = 46
    · subst h
      obtain ⟨L, h1, h2, h3⟩ := ih (s.size - (i + 1)) (by omega) (i + 1) (i + 1) (acc ++ [s.extract fr i]) [] rfl (by omega) (by omega) (by simp; omega) rfl (by simp) (by simp)
      refine ⟨s.extract fr i :: L, Ev.step (f := fun k => spec_Split.l0 k s 46 (acc ++ [s.extract fr i]) ((i + 1 : Nat) : Int) ((i + 1 : Nat) : Int)) (fun k => ?_) ?_, ?_, by simp only [List.length_cons]; omega⟩
      · simp only [spec_Split.l0]
        rw [if_pos (by omega), if_pos (by omega), at_drop hc, if_pos (by rfl), if_pos (by omega), if_pos (by omega), if_pos (by omega), if_pos (by omega), wi1 i (by omega), Int.toNat_natCast, Int.toNat_natCast]
      · have e : acc ++ s.extract fr i :: L = (acc ++ [s.extract fr i]) ++ L := by simp
        rw [e]; exact h1
      · rw [List.map_cons, h2, hp, sp_cut _ _ hno, next_drop hc, bl_extract, hp, ← hpl, List.take_left]
    · obtain ⟨L, h1, h2, h3⟩ := ih (s.size - (i + 1)) (by omega) (i + 1) fr acc (pre ++ [c]) rfl (by omega) (by omega) (by omega) (by rw [hp, next_drop hc]; simp) (by simp; omega) (by
          intro q
          rcases List.mem_append.mp q with q | q
          · exact hno q
          · exact h (List.mem_singleton.mp q).symm)
      refine ⟨L, Ev.step (f := fun k => spec_Split.l0 k s 46 acc (fr : Int) ((i + 1 : Nat) : Int)) (fun k => ?_) h1, by rw [h2], by omega⟩
      simp only [spec_Split.l0]
      rw [if_pos (by omega), if_pos (by omega), at_drop hc, if_neg (show ¬ (c.toNat : Int) = 46 from fun q => h ((num_eq 46).mp q)), wi1 i (by omega)]

/-- Both say the same of an interface's name. -/
theorem both (s : ByteArray) (hs : s.size ≤ 100000) : ∃ b, Ev (fun k => impl_NmInterface.f k s) b ∧ Ev (fun k => spec_ValidInterface.f k s) b := by
  suffices h : ∃ b, Ev (fun k => dbus_isValidInterface.f k s) b ∧ Ev (fun k => spec_ValidInterface.f k s) b by
    obtain ⟨b, h1, h2⟩ := h
    exact ⟨b, Ev.bind (Ev.bind h1 (Ev.now _)) (Ev.now _), h2⟩
  have j0t : Ev (fun k => dbus_isValidInterface.j0 k s true) false := Ev.step (f := fun _ => some false) (fun k => by simp only [dbus_isValidInterface.j0]; exact if_pos trivial) (Ev.now _)
  unfold dbus_isValidInterface.f spec_ValidInterface.f
  by_cases h255 : (s.size : Int) ≤ 255
  rotate_left
  · exact ⟨false, ev_ite_neg (by omega) (fun _ => rfl) (ev_ite_pos (by omega) (fun _ => rfl) j0t), ev_ite_neg h255 (fun _ => rfl) (Ev.now _)⟩
  obtain ⟨p, hp, hp1, hp2⟩ := Go.Proofs.Ytcdbhpmnilfpfaa.MFnNmAllw.pts s (by omega) s.size 0 0 (by omega) (by omega) (by omega)
  have hpf : Ev (fun k => spec_points.f k s) (p : Int) := hp
  obtain ⟨L, hL, hL2, hL3⟩ := split s.size s [] rfl hs (by simp; omega)
  obtain ⟨M, hM, hM2, hM3⟩ := splitS s hs s.size 0 0 [] [] (by omega) (by omega) (by omega) (by simp) (by simp) (by simp) (by simp)
  rw [List.nil_append] at hL hM
  rw [List.drop_zero] at hM2
  have hMs : ∀ z ∈ M, z.size ≤ 100000 := by
    have hflat : ∀ l : List UInt8, ∀ x ∈ sp l, x.length ≤ l.length := by
      intro l
      induction l with
      | nil => intro x hx; simp [sp] at hx; simp [hx]
      | cons c r ihr =>
        intro x hx
        rw [sp] at hx
        split at hx
        · rcases List.mem_cons.mp hx with q | q
          · simp [q]
          · have := ihr x q; simp; omega
        · split at hx
          · rename_i a T hs2
            rcases List.mem_cons.mp hx with q | q
            · have := ihr a (by rw [hs2]; exact List.mem_cons_self); rw [q]; simp; omega
            · have := ihr x (by rw [hs2]; exact List.mem_cons_of_mem _ q); simp; omega
          · simp at hx; simp [hx]
    intro z hz
    have := hflat (bl s) (bl z) (by rw [← hM2]; exact List.mem_map.mpr ⟨z, hz, rfl⟩)
    rw [bl_len, bl_len] at this; omega
  have hP := parts L (by omega) L.length 0 (by omega) (by omega)
  have hN := partsN M (by omega) hMs M.length 0 (by omega) (by omega)
  rw [List.drop_zero, hL2] at hP
  rw [List.drop_zero, hM2] at hN
  have hNamed : Ev (fun k => spec_named.f k s false false) (gdi (sp (bl s))) := Ev.bind (g := fun k => spec_Split.f k s 46) hM hN
  have hLl : L.length = (sp (bl s)).length := by rw [← hL2, List.length_map]
  obtain ⟨x, _, hx⟩ := idx s hs s.size 0 (by omega) (by omega)
  rw [List.drop_zero] at hx
  have hpts : p = 0 ↔ 46 ∉ bl s := by
    rw [hp2]
    constructor
    · intro h q
      obtain ⟨j, hj, hj2⟩ := List.getElem_of_mem q
      refine h j (by omega) hj ?_
      rw [bt_nat s j hj, hj2]; rfl
    · intro h j _ hj q
      refine h ?_
      have hj' : j < (bl s).length := hj
      rw [bt_nat s j hj'] at q
      have : (bl s)[j] = 46 := (num_eq 46).mp q
      rw [← this]; exact List.getElem_mem hj'
  have hS : ∀ b, (0 < p → b = gdi (sp (bl s))) → (p = 0 → b = false) → Ev (fun k => (spec_points.f k s).bind fun t120 => (if t120 > 0 then ((spec_named.f k s false false).bind fun t121 => (some t121)) else (some false))) b := by
    intro b h1 h2
    by_cases hz : p = 0
    · rw [h2 hz]; exact Ev.bind hpf (ev_ite_neg (by omega) (fun _ => rfl) (Ev.now _))
    · rw [h1 (by omega)]; exact Ev.bind hpf (ev_ite_pos (by omega) (fun _ => rfl) (Ev.bind hNamed (Ev.now _)))
  by_cases h0 : s.size = 0
  · have hb : bl s = [] := List.eq_nil_of_length_eq_zero h0
    have hp0 : p = 0 := hpts.mpr (by rw [hb]; simp)
    exact ⟨false, ev_ite_pos (by omega) (fun _ => rfl) j0t, ev_ite_pos h255 (fun _ => rfl) (hS false (fun q => by omega) (fun _ => rfl))⟩
  have up : ∀ b, Ev (fun k => dbus_isValidInterface.j0 k s (bt s 0 == 46)) b → Ev (fun k => if (s.size : Int) = 0 then (dbus_isValidInterface.j0 k s true) else (if (s.size : Int) > 255 then (dbus_isValidInterface.j0 k s true) else (if 0 < (s.size : Int) then (dbus_isValidInterface.j0 k s ((bt s 0) == 46)) else (none)))) b := fun b h =>
    ev_ite_neg (by omega) (fun _ => rfl) (ev_ite_neg (by omega) (fun _ => rfl) (ev_ite_pos (by omega) (fun _ => rfl) h))
  cases hb : bl s with
  | nil => exact absurd (by rw [← bl_len, hb]; rfl) h0
  | cons c r =>
  have hc0 : bt s 0 = (c.toNat : Int) := at_drop (s := s) (p := 0) (r := r) (by rw [List.drop_zero]; exact hb)
  by_cases h46 : c = 46
  · have e : (bt s 0 == 46) = true := by rw [beq_iff_eq, hc0, h46]; rfl
    refine ⟨false, up false (by rw [e]; exact j0t), ev_ite_pos h255 (fun _ => rfl) (hS false (fun _ => ?_) (fun _ => rfl))⟩
    rw [hb, sp, if_pos h46, gdi_cons]; rfl
  · have e : (bt s 0 == 46) = false := by rw [beq_eq_false_iff_ne, hc0]; exact fun q => h46 ((num_eq 46).mp q)
    have hsp : Ev (fun k => dbus_zzSplit.f k s (⟨#[46]⟩ : ByteArray)) L := ev_ite_neg (by decide) (fun _ => rfl) hL
    have st : ∀ k, dbus_isValidInterface.j0 (k + 1) s false = (dbus_zzSplit.f k s (⟨#[46]⟩ : ByteArray)).bind fun t118 => (if (t118.length : Int) < 2 then (some false) else (dbus_isValidInterface.l0 k t118 (t118.length : Int) 0)) := by
      intro k; simp only [dbus_isValidInterface.j0]; rw [if_neg (by decide)]
    rcases hx with ⟨_, hno⟩ | ⟨pre, post, hpp, hpre, _⟩
    · have hl1 : L.length = 1 := by rw [hLl, sp_one _ hno]; rfl
      refine ⟨false, up false ?_, ev_ite_pos h255 (fun _ => rfl) (hS false (fun q => by have := hpts.mpr hno; omega) (fun _ => rfl))⟩
      rw [e]
      exact Ev.step st (Ev.bind hsp (ev_ite_pos (by omega) (fun _ => rfl) (Ev.now _)))
    · have hl2 : 2 ≤ L.length := by
        rw [hLl, hpp, sp_cut _ _ hpre, List.length_cons]
        have := List.length_pos_iff.mpr (sp_ne post)
        omega
      have hpn : p ≠ 0 := fun q => hpts.mp q (by rw [hpp]; simp)
      refine ⟨gdi (sp (bl s)), up _ ?_, ev_ite_pos h255 (fun _ => rfl) (hS _ (fun _ => rfl) (fun q => absurd q hpn))⟩
      rw [e]
      exact Ev.step st (Ev.bind hsp (ev_ite_neg (by omega) (fun _ => rfl) hP))
end Go.Proofs.Ytcdbhpmnilfpfaa.MFnNmAlld
