/- Plain laws on object paths: the split at slashes, what the package and the reference say of a path. -/
import Derived.Test.YtcdbhpmnilfpfaaMFnNmAllx
import Derived.Test.YtcdbhpmnilfpfaaHlp
namespace Go.Proofs.Ytcdbhpmnilfpfaa.MFnNmAllp
open Go Go.RowKit Go.Proofs.Ytcdbhpmnilfpfaa.MFnNmAll Go.Proofs.YtcdbhpmnilfpfaaW.PrintWords Go.Proofs.YtcdbhpmnilfpfaaW.PrintLast Go.Proofs.YtcdbhpmnilfpfaaW.PrintMore Go.Proofs.Ytcdbhpmnilfpfaa.Hlp
set_option linter.unusedVariables false
set_option linter.unusedSimpArgs false

theorem num_eq {c : UInt8} (d : UInt8) : (c.toNat : Int) = (d.toNat : Int) ↔ c = d := by
  constructor
  · intro h; exact UInt8.toNat_inj.mp (by exact_mod_cast h)
  · intro h; rw [h]
theorem at_drop {s : ByteArray} {p : Nat} {c : UInt8} {r : List UInt8} (h : (bl s).drop p = c :: r) : bt s (p : Int) = (c.toNat : Int) := by
  rw [bt_getD]
  have e : (bl s).getD p 0 = ((bl s).drop p).getD 0 0 := by simp [List.getD_eq_getElem?_getD]
  rw [e, h]; rfl
theorem lt_drop {s : ByteArray} {p : Nat} {c : UInt8} {r : List UInt8} (h : (bl s).drop p = c :: r) : p + r.length + 1 = s.size := by
  have := congrArg List.length h
  rw [List.length_drop, bl_len] at this
  simp only [List.length_cons] at this; omega
theorem end_drop {s : ByteArray} {p : Nat} (h : (bl s).drop p = []) : ¬ p < s.size := by
  have := congrArg List.length h
  rw [List.length_drop, bl_len] at this
  simp at this; omega
theorem next_drop {s : ByteArray} {p : Nat} {c : UInt8} {r : List UInt8} (h : (bl s).drop p = c :: r) : (bl s).drop (p + 1) = r := by
  rw [← List.drop_drop, h]; rfl
theorem wi1 (i : Nat) (h : i ≤ 1000000) : wrap64 ((i : Int) + 1) = ((i + 1 : Nat) : Int) := w64 (x := (i : Int) + 1) (by omega) (by omega)

def Mem (c : Int) : Prop := (48 ≤ c ∧ c ≤ 57) ∨ (65 ≤ c ∧ c ≤ 90) ∨ (97 ≤ c ∧ c ≤ 122) ∨ c = 95
instance (c : Int) : Decidable (Mem c) := by unfold Mem; exact inferInstance
theorem member_f (c : Int) : dbus_isMemberChar.f c = some (decide (Mem c)) := by
  unfold dbus_isMemberChar.f
  repeat' split
  all_goals (congr 1; first | (symm; exact decide_eq_true (by unfold Mem; omega)) | (rw [Bool.eq_iff_iff, beq_iff_eq, decide_eq_true_iff]; unfold Mem; omega))
theorem word_fin : ∀ n : Fin 256, spec_word.f (n.val : Int) = some (decide (Mem (n.val : Int))) := by decide +kernel
theorem word_f (c : UInt8) : spec_word.f (c.toNat : Int) = some (decide (Mem (c.toNat : Int))) := word_fin ⟨c.toNat, c.toNat_lt⟩
def mem (c : UInt8) : Bool := decide (Mem (c.toNat : Int))

/-- The parts between slashes. -/
def sp : List UInt8 → List (List UInt8)
  | [] => [[]]
  | c :: r => if c = 47 then [] :: sp r else match sp r with
    | h :: T => (c :: h) :: T
    | [] => [[c]]
theorem sp_ne : ∀ l, sp l ≠ []
  | [] => by simp [sp]
  | c :: r => by
    rw [sp]
    split
    · simp
    · split <;> simp
theorem sp_one : ∀ l : List UInt8, 47 ∉ l → sp l = [l]
  | [], _ => rfl
  | c :: r, h => by
    rw [sp, if_neg (fun q => h (by rw [q]; exact List.mem_cons_self)), sp_one r (fun q => h (List.mem_cons_of_mem _ q))]
theorem sp_cut (post : List UInt8) : ∀ pre : List UInt8, 47 ∉ pre → sp (pre ++ 47 :: post) = pre :: sp post
  | [], _ => by rw [List.nil_append, sp, if_pos rfl]
  | c :: r, h => by
    rw [List.cons_append, sp, if_neg (fun q => h (by rw [q]; exact List.mem_cons_self)), sp_cut post r (fun q => h (List.mem_cons_of_mem _ q))]
def gd (L : List (List UInt8)) : Bool := L.all fun p => !p.isEmpty && p.all mem
def scanE : Bool → List UInt8 → Bool
  | p, [] => !p
  | p, c :: r => if c = 47 then !p && scanE true r else mem c && scanE false r
def scan : Bool → List UInt8 → Bool
  | _, [] => true
  | p, c :: r => if c = 47 then !p && scan true r else mem c && scan false r
def goodp (p : Bool) (l : List UInt8) : Bool := match sp l with
  | h :: T => (!p || !h.isEmpty) && h.all mem && gd T
  | [] => true
theorem goodp_true (l : List UInt8) : goodp true l = gd (sp l) := by
  unfold goodp
  cases h : sp l with
  | nil => exact absurd h (sp_ne l)
  | cons a T => simp [gd]
theorem goodp_scan : ∀ (l : List UInt8) (p : Bool), goodp p l = scanE p l
  | [], p => by simp [goodp, sp, scanE, gd]
  | c :: r, p => by
    by_cases h : c = 47
    · rw [scanE, if_pos h, ← goodp_scan r true, goodp_true]
      unfold goodp
      rw [sp, if_pos h]
      simp
    · rw [scanE, if_neg h, ← goodp_scan r false]
      unfold goodp
      rw [sp, if_neg h]
      cases hs : sp r with
      | nil => exact absurd hs (sp_ne r)
      | cons a T => simp [Bool.and_assoc]
theorem scan_eq : ∀ (l : List UInt8) (p : Bool), l ≠ [] → (∀ q, l ≠ q ++ [47]) → scanE p l = scan p l
  | [], _, h, _ => absurd rfl h
  | [c], p, _, h => by
    have hc : c ≠ 47 := fun q => h [] (by rw [q]; rfl)
    simp [scanE, scan, hc]
  | c :: d :: r, p, _, h => by
    have h2 : ∀ q, d :: r ≠ q ++ [47] := fun q e => h (c :: q) (by rw [e]; rfl)
    rw [scanE, scan, scan_eq (d :: r) true (by simp) h2, scan_eq (d :: r) false (by simp) h2]

/-! The search and the split. -/
theorem idx (s : ByteArray) (hs : s.size ≤ 100000) (d : Nat) : ∀ i : Nat, s.size - i = d → i ≤ s.size → ∃ r : Int, Ev (fun k => dbus_zzIndex.l0 k s ⟨#[47]⟩ (i : Int)) r ∧
    ((r = -1 ∧ 47 ∉ (bl s).drop i) ∨ ∃ pre post, (bl s).drop i = pre ++ 47 :: post ∧ 47 ∉ pre ∧ r = ((i + pre.length : Nat) : Int)) := by
  induction d using Nat.strongRecOn with
  | _ d ih =>
  intro i hd hi
  have e1 : (((⟨#[47]⟩ : ByteArray).size : Nat) : Int) = 1 := rfl
  have e5 : (⟨#[47]⟩ : ByteArray).toList = [47] := by rw [toList_bl]; rfl
  cases hc : (bl s).drop i with
  | nil =>
    have hnl := end_drop hc
    refine ⟨-1, Ev.step (f := fun _ => some (-1)) (fun k => ?_) (Ev.now _), .inl ⟨rfl, by simp⟩⟩
    simp only [dbus_zzIndex.l0, e1]
    rw [wi1 i (by omega), if_neg (by omega)]
  | cons c r =>
    have hlt := lt_drop hc
    have hw : (s.extract i (i + 1)).toList = [47] ↔ c = 47 := by
      rw [one_byte s i (by omega) 47, at_drop hc]; exact num_eq 47
    by_cases h : c = 47
    · subst h
      refine ⟨(i : Int), Ev.step (f := fun _ => some (i : Int)) (fun k => ?_) (Ev.now _), .inr ⟨[], r, rfl, by simp, by simp⟩⟩
      simp only [dbus_zzIndex.l0, e1]
      rw [wi1 i (by omega), if_pos (by omega), if_pos (by omega), if_pos (by omega), Int.toNat_natCast, Int.toNat_natCast, e5, if_pos (hw.mpr rfl)]
    · obtain ⟨x, hx, hx2⟩ := ih (s.size - (i + 1)) (by omega) (i + 1) rfl (by omega)
      refine ⟨x, Ev.step (f := fun k => dbus_zzIndex.l0 k s ⟨#[47]⟩ ((i + 1 : Nat) : Int)) (fun k => ?_) hx, ?_⟩
      · simp only [dbus_zzIndex.l0, e1]
        rw [wi1 i (by omega), if_pos (by omega), if_pos (by omega), if_pos (by omega), Int.toNat_natCast, Int.toNat_natCast, e5, if_neg (fun q => h (hw.mp q))]
      · rw [next_drop hc] at hx2
        rcases hx2 with ⟨h1, h2⟩ | ⟨pre, post, h1, h2, h3⟩
        · refine .inl ⟨h1, fun q => ?_⟩
          rcases List.mem_cons.mp q with q | q
          · exact h q.symm
          · exact h2 q
        · refine .inr ⟨c :: pre, post, by rw [h1]; rfl, fun q => ?_, by rw [h3]; simp only [List.length_cons]; omega⟩
          rcases List.mem_cons.mp q with q | q
          · exact h q.symm
          · exact h2 q
theorem split (m : Nat) : ∀ (t : ByteArray) (acc : List ByteArray), t.size = m → t.size ≤ 100000 → acc.length + m ≤ 1000000 → ∃ L : List ByteArray, Ev (fun k => dbus_zzSplit.l1 k t ⟨#[47]⟩ acc) (acc ++ L) ∧ L.map bl = sp (bl t) ∧ L.length ≤ m + 1 := by
  induction m using Nat.strongRecOn with
  | _ m ih =>
  intro t acc hm hs ha
  obtain ⟨r, hr, hr2⟩ := idx t hs t.size 0 (by omega) (by omega)
  rw [List.drop_zero] at hr2
  have e1 : (((⟨#[47]⟩ : ByteArray).size : Nat) : Int) = 1 := rfl
  have st : ∀ k, dbus_zzSplit.l1 (k + 1) t ⟨#[47]⟩ acc = (dbus_zzIndex.f k t ⟨#[47]⟩).bind fun t107 => (if t107 < 0 then (if acc.length < 8796093022208 then (some (acc ++ [t])) else (none)) else (if 0 ≤ t107 then (if t107 ≤ (t.size : Int) then (if acc.length < 8796093022208 then (if 0 ≤ (wrap64 (t107 + 1)) then (if (wrap64 (t107 + 1)) ≤ (t.size : Int) then (dbus_zzSplit.l1 k (t.extract ((wrap64 (t107 + 1)) : Int).toNat t.size) ⟨#[47]⟩ (acc ++ [t.extract 0 (t107 : Int).toNat])) else (none)) else (none)) else (none)) else (none)) else (none))) := by
    intro k; simp only [dbus_zzSplit.l1, e1]
  rcases hr2 with ⟨h1, h2⟩ | ⟨pre, post, h1, h2, h3⟩
  · subst h1
    refine ⟨[t], Ev.step st (Ev.bind (g := fun k => dbus_zzIndex.f k t ⟨#[47]⟩) hr (ev_ite_pos (by omega) (fun _ => rfl) (ev_ite_pos (by omega) (fun _ => rfl) (Ev.now _)))), ?_, by simp⟩
    rw [sp_one _ h2]; rfl
  · have hsz : t.size = pre.length + 1 + post.length := by rw [← bl_len, h1]; simp; omega
    rw [Nat.zero_add] at h3
    have hb2 : bl (t.extract (pre.length + 1) t.size) = post := by
      rw [bl_extract, h1, List.take_of_length_le (by simp; omega)]
      simp
    have hz : (t.extract (pre.length + 1) t.size).size = post.length := by rw [← bl_len, hb2]
    obtain ⟨L, hL, hL2, hL3⟩ := ih post.length (by omega) (t.extract (pre.length + 1) t.size) (acc ++ [t.extract 0 pre.length]) hz (by omega) (by simp; omega)
    refine ⟨t.extract 0 pre.length :: L, Ev.step st (Ev.bind (g := fun k => dbus_zzIndex.f k t ⟨#[47]⟩) hr ?_), ?_, by simp only [List.length_cons]; omega⟩
    · subst h3
      rw [wi1 pre.length (by omega)]
      refine ev_ite_neg (by omega) (fun _ => rfl) (ev_ite_pos (by omega) (fun _ => rfl) (ev_ite_pos (by omega) (fun _ => rfl) (ev_ite_pos (by omega) (fun _ => rfl) (ev_ite_pos (by omega) (fun _ => rfl) (ev_ite_pos (by omega) (fun _ => rfl) ?_)))))
      rw [Int.toNat_natCast, Int.toNat_natCast]
      have e : acc ++ t.extract 0 pre.length :: L = (acc ++ [t.extract 0 pre.length]) ++ L := by simp
      rw [e]; exact hL
    · rw [List.map_cons, hL2, hb2, h1, sp_cut _ _ h2, bl_extract, h1]
      simp

/-! The package's walk over the parts. -/
theorem runes (L : List ByteArray) (m q : Int) (v : ByteArray) (d : Nat) : ∀ pos : Nat, v.size - pos = d → pos ≤ v.size →
    (((bl v).drop pos).all mem = true → ∀ r, Ev (fun k => dbus_ObjectPath_IsValid.l0 k L m (wrap64 (q + 1))) r → Ev (fun k => dbus_ObjectPath_IsValid.l1 k L m q v (pos : Int)) r) ∧
    (((bl v).drop pos).all mem = false → Ev (fun k => dbus_ObjectPath_IsValid.l1 k L m q v (pos : Int)) false) := by
  induction d using Nat.strongRecOn with
  | _ d ih =>
  intro pos hd hp
  cases hc : (bl v).drop pos with
  | nil =>
    have hnl := end_drop hc
    refine ⟨fun _ r hr => Ev.step (fun k => ?_) hr, fun h => by simp at h⟩
    simp only [dbus_ObjectPath_IsValid.l1, Int.toNat_natCast]; rw [if_neg hnl]
  | cons c z =>
    have hlt := lt_drop hc
    have hb := at_drop hc
    by_cases h128 : bt v pos < 128
    · obtain ⟨h1, h2⟩ := dec_lo v pos (by omega) h128
      obtain ⟨y, n⟩ := ih (v.size - (pos + 1)) (by omega) (pos + 1) rfl (by omega)
      rw [next_drop hc] at y n
      by_cases hm : mem c = true
      · have hM : decide (Mem (bt v pos)) = true := by rw [hb]; exact hm
        have st : ∀ k, dbus_ObjectPath_IsValid.l1 (k + 1) L m q v (pos : Int) = dbus_ObjectPath_IsValid.l1 k L m q v ((pos + 1 : Nat) : Int) := by
          intro k
          simp only [dbus_ObjectPath_IsValid.l1, Int.toNat_natCast]
          rw [if_pos (by omega), h1, h2, member_f, hM]; rfl
        rw [List.all_cons, hm, Bool.true_and]
        exact ⟨fun h r hr => Ev.step st (y h r hr), fun h => Ev.step st (n h)⟩
      · have hM : decide (Mem (bt v pos)) = false := by rw [hb]; exact Bool.eq_false_iff.mpr hm
        refine ⟨fun h => absurd h (by rw [List.all_cons, Bool.eq_false_iff.mpr hm]; simp), fun _ => Ev.step (f := fun _ => some false) (fun k => ?_) (Ev.now _)⟩
        simp only [dbus_ObjectPath_IsValid.l1, Int.toNat_natCast]
        rw [if_pos (by omega), h1, member_f, hM]; rfl
    · obtain ⟨h1, h2⟩ := dec_hi v pos (by omega) (by omega)
      have hM : ¬ Mem ((Utf8.decode v pos).1 : Int) := by unfold Mem; omega
      have hm : mem c = false := decide_eq_false (by unfold Mem; rw [← hb]; omega)
      refine ⟨fun h => absurd h (by rw [List.all_cons, hm]; simp), fun _ => Ev.step (f := fun _ => some false) (fun k => ?_) (Ev.now _)⟩
      simp only [dbus_ObjectPath_IsValid.l1, Int.toNat_natCast]
      rw [if_pos (by omega), member_f, decide_eq_false hM]; rfl
theorem rd_at {L : List ByteArray} {i : Nat} {z : ByteArray} {r : List ByteArray} (h : L.drop i = z :: r) : rdOf ByteArray.empty L (i : Int) = z := by
  unfold rdOf
  rw [Int.toNat_natCast]
  have e : L.getD i ByteArray.empty = (L.drop i).getD 0 ByteArray.empty := by simp [List.getD_eq_getElem?_getD]
  rw [e, h]; rfl
theorem parts (L : List ByteArray) (hL : L.length ≤ 1000000) (d : Nat) : ∀ i : Nat, L.length - i = d → i ≤ L.length → Ev (fun k => dbus_ObjectPath_IsValid.l0 k L (L.length : Int) (i : Int)) (gd ((L.drop i).map bl)) := by
  induction d using Nat.strongRecOn with
  | _ d ih =>
  intro i hd hi
  cases hc : L.drop i with
  | nil =>
    have hnl : ¬ i < L.length := by
      have := congrArg List.length hc
      rw [List.length_drop] at this
      simp at this; omega
    refine Ev.step (f := fun _ => some true) (fun k => ?_) (Ev.now _)
    simp only [dbus_ObjectPath_IsValid.l0]; rw [if_neg (by omega)]
  | cons z r =>
    have hlt : i < L.length := by
      have := congrArg List.length hc
      rw [List.length_drop] at this
      simp at this; omega
    have hnx : L.drop (i + 1) = r := by rw [← List.drop_drop, hc]; rfl
    have h2 := ih (L.length - (i + 1)) (by omega) (i + 1) rfl (by omega)
    rw [hnx] at h2
    have st : ∀ k, dbus_ObjectPath_IsValid.l0 (k + 1) L (L.length : Int) (i : Int) = if (z.size : Int) = 0 then some false else dbus_ObjectPath_IsValid.l1 k L (L.length : Int) (i : Int) z 0 := by
      intro k
      simp only [dbus_ObjectPath_IsValid.l0]
      rw [if_pos (by omega), if_pos (by omega), if_pos (by omega), rd_at hc]
    rw [List.map_cons]
    by_cases hz : z.size = 0
    · have e : gd (bl z :: r.map bl) = false := by
        have : bl z = [] := List.eq_nil_of_length_eq_zero hz
        simp [gd, this]
      rw [e]
      exact Ev.step st (ev_ite_pos (by omega) (fun _ => rfl) (Ev.now _))
    · obtain ⟨y, n⟩ := runes L (L.length : Int) (i : Int) z z.size 0 (by omega) (by omega)
      rw [List.drop_zero] at y n
      have hne : (bl z).isEmpty = false := by
        cases h : bl z with
        | nil => exact absurd (by rw [← bl_len, h]; rfl) hz
        | cons a b => rfl
      refine Ev.step st (ev_ite_neg (by omega) (fun _ => rfl) ?_)
      cases ha : (bl z).all mem with
      | true =>
        have e : gd (bl z :: r.map bl) = gd (r.map bl) := by simp only [gd, List.all_cons, hne, ha]; rfl
        rw [e]
        refine y ha _ ?_
        rw [wi1 i (by omega)]; exact h2
      | false =>
        have e : gd (bl z :: r.map bl) = false := by simp only [gd, List.all_cons, hne, ha]; rfl
        rw [e]
        exact n ha

/-! The reference's walk over the bytes. -/
theorem bytes (s : ByteArray) (hs : s.size ≤ 100000) (d : Nat) : ∀ i : Nat, s.size - i = d → 1 ≤ i → i ≤ s.size → Ev (fun k => spec_ValidPath.l0 k s (i : Int)) (scan (decide (bt s ((i - 1 : Nat) : Int) = 47)) ((bl s).drop i)) := by
  induction d using Nat.strongRecOn with
  | _ d ih =>
  intro i hd h1 hi
  cases hc : (bl s).drop i with
  | nil =>
    have hnl := end_drop hc
    refine Ev.step (f := fun _ => some true) (fun k => ?_) (Ev.now _)
    simp only [spec_ValidPath.l0]; rw [if_neg (by omega)]
  | cons c r =>
    have hlt := lt_drop hc
    have h2 := ih (s.size - (i + 1)) (by omega) (i + 1) rfl (by omega) (by omega)
    rw [next_drop hc, Nat.add_sub_cancel, at_drop hc] at h2
    have wm : wrap64 ((i : Int) - 1) = ((i - 1 : Nat) : Int) := by rw [w64 (x := (i : Int) - 1) (by omega) (by omega)]; omega
    have st : ∀ k, spec_ValidPath.l0 (k + 1) s (i : Int) = if (c.toNat : Int) = 47 then (if bt s ((i - 1 : Nat) : Int) = 47 then some false else spec_ValidPath.l0 k s ((i + 1 : Nat) : Int)) else (if mem c = true then spec_ValidPath.l0 k s ((i + 1 : Nat) : Int) else some false) := by
      intro k
      simp only [spec_ValidPath.l0]
      rw [if_pos (by omega), if_pos (by omega), at_drop hc, wm, wi1 i (by omega), word_f]
      by_cases h : (c.toNat : Int) = 47
      · rw [if_pos h, if_pos h, if_pos (by omega), if_pos (by omega)]
      · rw [if_neg h, if_neg h]; rfl
    clear wm
    refine Ev.step st ?_
    by_cases h : c = 47
    · rw [scan, if_pos h]
      refine ev_ite_pos (show (c.toNat : Int) = 47 from (num_eq 47).mpr h) (fun _ => rfl) ?_
      have e : decide ((c.toNat : Int) = 47) = true := decide_eq_true ((num_eq 47).mpr h)
      rw [e] at h2
      by_cases hp : bt s ((i - 1 : Nat) : Int) = 47
      · rw [decide_eq_true hp]; exact ev_ite_pos hp (fun _ => rfl) (Ev.now _)
      · rw [decide_eq_false hp]; exact ev_ite_neg hp (fun _ => rfl) h2
    · rw [scan, if_neg h]
      refine ev_ite_neg (show ¬ (c.toNat : Int) = 47 from fun q => h ((num_eq 47).mp q)) (fun _ => rfl) ?_
      have e : decide ((c.toNat : Int) = 47) = false := decide_eq_false (fun q => h ((num_eq 47).mp q))
      rw [e] at h2
      cases hm : mem c with
      | true => exact ev_ite_pos rfl (fun _ => rfl) h2
      | false => exact ev_ite_neg (show ¬ (false = true) by decide) (fun _ => rfl) (Ev.now _)

/-- Both say the same. -/
theorem both (s : ByteArray) (hs : s.size ≤ 100000) : ∃ b, Ev (fun k => impl_NmPath.f k s) b ∧ Ev (fun k => spec_ValidPath.f k s) b := by
  suffices h : ∃ b, Ev (fun k => dbus_ObjectPath_IsValid.f k s) b ∧ Ev (fun k => spec_ValidPath.f k s) b by
    obtain ⟨b, h1, h2⟩ := h
    exact ⟨b, Ev.bind h1 (Ev.now _), h2⟩
  have j0t : Ev (fun k => spec_ValidPath.j0 k s true) false := Ev.step (f := fun _ => some false) (fun k => by simp only [spec_ValidPath.j0]; exact if_pos trivial) (Ev.now _)
  have i0t : Ev (fun k => dbus_ObjectPath_IsValid.j0 k s true) false := Ev.step (f := fun _ => some false) (fun k => by simp only [dbus_ObjectPath_IsValid.j0]; exact if_pos trivial) (Ev.now _)
  unfold dbus_ObjectPath_IsValid.f spec_ValidPath.f
  cases hb : bl s with
  | nil =>
    have h0 : s.size = 0 := by rw [← bl_len, hb]; rfl
    refine ⟨false, ev_ite_pos (by omega) (fun _ => rfl) (Ev.now _), ev_ite_neg ?_ (fun _ => rfl) (ev_ite_pos ((emp_iff s).mpr h0) (fun _ => rfl) j0t)⟩
    rw [toList_bl, hb]; simp
  | cons c r =>
    have hsz : s.size = r.length + 1 := by rw [← bl_len, hb]; simp
    have hc0 : bt s 0 = (c.toNat : Int) := at_drop (s := s) (p := 0) (r := r) (by rw [List.drop_zero]; exact hb)
    have hne : ¬ s.toList = ([] : List UInt8) := fun q => by have := (emp_iff s).mp q; omega
    have wl : wrap64 ((s.size : Int) - 1) = ((s.size - 1 : Nat) : Int) := by rw [w64 (x := (s.size : Int) - 1) (by omega) (by omega)]; omega
    rw [wl]
    clear wl
    by_cases hc : c = 47
    · subst hc
      have h47 : bt s 0 = 47 := hc0
      by_cases hr : r = []
      · subst hr
        have hs1 : s.size = 1 := hsz
        have hl : s.toList = ([47] : List UInt8) := by rw [toList_bl, hb]
        refine ⟨true, ?_, ev_ite_pos hl (fun _ => rfl) (Ev.now _)⟩
        have hlast : bt s ((s.size - 1 : Nat) : Int) = 47 := by rw [hs1]; exact h47
        refine ev_ite_neg (by omega) (fun _ => rfl) (ev_ite_pos (by omega) (fun _ => rfl) (ev_ite_pos h47 (fun _ => rfl) (ev_ite_pos (by omega) (fun _ => rfl) (ev_ite_pos (by omega) (fun _ => rfl) (ev_ite_pos hlast (fun _ => rfl) ?_)))))
        have e : ((s.size : Int) != 1) = false := by rw [hs1]; rfl
        rw [e]
        refine Ev.step (f := fun _ => some true) (fun k => ?_) (Ev.now _)
        simp only [dbus_ObjectPath_IsValid.j0]
        rw [if_neg (by decide), if_pos hl]
      · have hl : ¬ s.toList = ([47] : List UInt8) := by
          rw [toList_bl, hb]; intro q; exact hr (List.cons.inj q).2
        have hrl : 0 < r.length := List.length_pos_iff.mpr hr
        have e : ((s.size : Int) != 1) = true := by rw [bne_iff_ne]; omega
        by_cases hlast : bt s ((s.size - 1 : Nat) : Int) = 47
        · refine ⟨false, ev_ite_neg (by omega) (fun _ => rfl) (ev_ite_pos (by omega) (fun _ => rfl) (ev_ite_pos h47 (fun _ => rfl) (ev_ite_pos (by omega) (fun _ => rfl) (ev_ite_pos (by omega) (fun _ => rfl) (ev_ite_pos hlast (fun _ => rfl) ?_))))), ev_ite_neg hl (fun _ => rfl) (ev_ite_neg hne (fun _ => rfl) (ev_ite_pos (by omega) (fun _ => rfl) (ev_ite_pos h47 (fun _ => rfl) (ev_ite_pos (by omega) (fun _ => rfl) (ev_ite_pos (by omega) (fun _ => rfl) ?_)))))⟩
          · rw [e]; exact i0t
          · rw [show (bt s ((s.size - 1 : Nat) : Int) == 47) = true from beq_iff_eq.mpr hlast]; exact j0t
        · have hb1 : bl (s.extract 1 s.size) = r := by
            rw [bl_extract, hb]
            exact List.take_of_length_le (by rw [hsz]; simp)
          have hs1 : (s.extract 1 s.size).size = r.length := by rw [← bl_len, hb1]
          obtain ⟨L, hL, hL2, hL3⟩ := split r.length (s.extract 1 s.size) [] hs1 (by omega) (by simp; omega)
          rw [List.nil_append] at hL
          have hP := parts L (by omega) L.length 0 (by omega) (by omega)
          rw [List.drop_zero, hL2, hb1] at hP
          have hS := bytes s hs (s.size - 1) 1 rfl (by omega) (by omega)
          have hd1 : (bl s).drop 1 = r := by rw [hb]; rfl
          have e0 : decide (bt s ((1 - 1 : Nat) : Int) = 47) = true := decide_eq_true h47
          rw [hd1, e0] at hS
          have hend : ∀ q, r ≠ q ++ [47] := by
            intro q e2
            refine hlast ?_
            rw [bt_getD, hb, e2]
            have : s.size - 1 = q.length + 1 := by rw [hsz, e2]; simp
            rw [this]; simp
          have hgs : gd (sp r) = scan true r := by rw [← goodp_true, goodp_scan, scan_eq r true hr hend]
          rw [hgs] at hP
          refine ⟨scan true r, ev_ite_neg (by omega) (fun _ => rfl) (ev_ite_pos (by omega) (fun _ => rfl) (ev_ite_pos h47 (fun _ => rfl) (ev_ite_pos (by omega) (fun _ => rfl) (ev_ite_pos (by omega) (fun _ => rfl) (ev_ite_neg hlast (fun _ => rfl) ?_))))), ev_ite_neg hl (fun _ => rfl) (ev_ite_neg hne (fun _ => rfl) (ev_ite_pos (by omega) (fun _ => rfl) (ev_ite_pos h47 (fun _ => rfl) (ev_ite_pos (by omega) (fun _ => rfl) (ev_ite_pos (by omega) (fun _ => rfl) ?_)))))⟩
          · refine Ev.step (f := fun k => (dbus_zzSplit.f k (s.extract 1 s.size) (⟨#[47]⟩ : ByteArray)).bind fun t114 => (dbus_ObjectPath_IsValid.l0 k t114 (t114.length : Int) 0)) (fun k => ?_) (Ev.bind (a := L) ?_ hP)
            · simp only [dbus_ObjectPath_IsValid.j0]
              rw [if_neg (by decide), if_neg hl, if_pos (by omega)]
            · exact ev_ite_neg (by decide) (fun _ => rfl) hL
          · rw [show (bt s ((s.size - 1 : Nat) : Int) == 47) = false from beq_eq_false_iff_ne.mpr hlast]
            refine Ev.step (fun k => ?_) hS
            simp only [spec_ValidPath.j0]
            rw [if_neg (by decide)]; rfl
    · have h47 : ¬ bt s 0 = 47 := by rw [hc0]; exact fun q => hc ((num_eq 47).mp q)
      refine ⟨false, ev_ite_neg (by omega) (fun _ => rfl) (ev_ite_pos (by omega) (fun _ => rfl) (ev_ite_neg h47 (fun _ => rfl) (Ev.now _))), ev_ite_neg ?_ (fun _ => rfl) (ev_ite_neg hne (fun _ => rfl) (ev_ite_pos (by omega) (fun _ => rfl) (ev_ite_neg h47 (fun _ => rfl) j0t)))⟩
      rw [toList_bl, hb]
      intro q; exact hc (List.cons.inj q).1
theorem slash_a : Ev (fun k => impl_NmPath.f k (⟨#[47, 97]⟩ : ByteArray)) true := by
  refine Ev.of (impl_NmPath.mono _) (k := 40) ?_
  decide +kernel
end Go.Proofs.Ytcdbhpmnilfpfaa.MFnNmAllp
