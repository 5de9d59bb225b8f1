/- Joining, splitting and cutting of texts, words of addresses, sizes: plain parts of FnAdAddress. -/
import Derived.Test.YtpgpkdickcdlpaaMFnAdAddresse
import Derived.Test.YtpgpkdickcdlpaaMFnAdAddressu
import Derived.Lib.Join
namespace Go.Proofs.Ytpgpkdickcdlpaa.MFnAdAddressa
open Go Go.RowKit Go.Proofs.Ytpgpkdickcdlpaa.MFnAdAddress Go.Proofs.YtpgpkdickcdlpaaW.PrintWords Go.Proofs.YtpgpkdickcdlpaaW.PrintLast Go.Proofs.Ytpgpkdickcdlpaa.Hlp
set_option linter.unusedVariables false

def mk (l : List UInt8) : ByteArray := ⟨l.toArray⟩
theorem bl_mk (l : List UInt8) : bl (mk l) = l := by simp [bl, mk]
theorem mk_bl (s : ByteArray) : mk (bl s) = s := bl_ext (bl_mk _)
theorem mk_size (l : List UInt8) : (mk l).size = l.length := by rw [← bl_len, bl_mk]
theorem upI (i : Nat) (h : i ≤ 2147483647) : wrap64 ((i : Int) + 1) = ((i + 1 : Nat) : Int) := by rw [w64 (by omega) (by omega)]; omega
theorem rdS (l : List ByteArray) (i : Nat) (h : i < l.length) : rdOf ByteArray.empty l (i : Int) = l[i] := by simp [rdOf, List.getD, h]
theorem rdL (l : List (List ByteArray)) (i : Nat) (h : i < l.length) : rd_L1 l (i : Int) = l[i] := by simp [rd_L1, List.getD, h]
theorem join_take (ls : List (List UInt8)) (sep : List UInt8) (i : Nat) (hi : i < ls.length) : Lib.join (ls.take (i + 1)) sep = (if i = 0 then ls[i] else Lib.join (ls.take i) sep ++ sep ++ ls[i]) := by
  rw [List.take_succ_eq_append_getElem hi]
  split
  · rename_i h; subst h; simp [Lib.join_one]
  · rename_i h
    obtain ⟨y, r, e⟩ : ∃ y r, ls.take i = y :: r := by
      cases hq : ls.take i with
      | nil => have : (ls.take i).length = 0 := by rw [hq]; rfl
               rw [List.length_take] at this; omega
      | cons y r => exact ⟨y, r, rfl⟩
    rw [e, List.cons_append, Lib.join_cons, Lib.join_cons]
    simp [Lib.joinTail, List.append_assoc]
theorem join_len_le (ls : List (List UInt8)) (sep : List UInt8) (i : Nat) : (Lib.join (ls.take i) sep).length ≤ (Lib.join ls sep).length := by
  rcases ls with _ | ⟨y, r⟩
  · simp
  · rcases i with _ | i
    · simp [Lib.join_nil]
    · rw [List.take_succ_cons, Lib.join_cons, Lib.join_cons, List.length_append, List.length_append]
      have := Lib.joinTail_take_le sep r i
      omega
theorem joined_loop (l : List ByteArray) (sep : ByteArray) (hl : l.length ≤ 1000) (hb : (Lib.join (l.map bl) (bl sep)).length ≤ 1000000) : ∀ (d i : Nat) (x : ByteArray), d = l.length - i → i ≤ l.length → bl x = Lib.join ((l.map bl).take i) (bl sep) →
    Ev (fun k => spec_Joined.l0 k sep x l (l.length : Int) (i : Int)) (mk (Lib.join (l.map bl) (bl sep)))
  | 0, i, x, hd, hi, hx => by
    have e : x = mk (Lib.join (l.map bl) (bl sep)) := bl_ext (by rw [bl_mk, hx, List.take_of_length_le (by rw [List.length_map]; omega)])
    subst e
    refine Ev.step (f := fun _ => some _) (fun k => ?_) (Ev.now _)
    simp only [spec_Joined.l0]
    rw [if_neg (by omega)]
  | d + 1, i, x, hd, hi, hx => by
    have hin : i < l.length := by omega
    have hin' : i < (l.map bl).length := by rw [List.length_map]; exact hin
    have hj := join_take (l.map bl) (bl sep) i hin'
    have hle := join_len_le (l.map bl) (bl sep) (i + 1)
    have hg : (l.map bl)[i] = bl l[i] := by simp
    rw [hg] at hj
    by_cases h0 : i = 0
    · rw [if_pos h0] at hj
      have hx0 : bl x = [] := by rw [hx, h0]; rfl
      have hxs : x.size = 0 := by rw [← bl_len, hx0]; rfl
      rw [hj, bl_len] at hle
      refine Ev.step (fun k => ?_) (joined_loop l sep hl hb d (i + 1) (x ++ l[i]) (by omega) (by omega) (by rw [bl_append, hx0, hj]; rfl))
      simp only [spec_Joined.l0]
      rw [if_pos (by omega), if_pos (by omega), if_pos (by omega), if_neg (by omega), rdS l i hin, if_pos (by omega), upI i (by omega)]
    · rw [if_neg h0, ← hx] at hj
      rw [hj, List.length_append, List.length_append, bl_len, bl_len, bl_len] at hle
      refine Ev.step (fun k => ?_) (joined_loop l sep hl hb d (i + 1) ((x ++ sep) ++ l[i]) (by omega) (by omega) (by rw [bl_append, bl_append, hj]))
      simp only [spec_Joined.l0]
      rw [if_pos (by omega), if_pos (by omega), if_pos (by omega), if_pos (by omega), if_pos (by omega), rdS l i hin, if_pos (by rw [ByteArray.size_append]; omega), upI i (by omega)]
theorem joined (l : List ByteArray) (sep : ByteArray) (hl : l.length ≤ 1000) (hb : (Lib.join (l.map bl) (bl sep)).length ≤ 1000000) : Ev (fun k => spec_Joined.f k l sep) (mk (Lib.join (l.map bl) (bl sep))) :=
  joined_loop l sep hl hb l.length 0 ⟨#[]⟩ (by omega) (by omega) rfl

/-! ### Bytes by their place -/
theorem bt_at' (s : ByteArray) (A B : List UInt8) (c : UInt8) (h : bl s = A ++ c :: B) : bt s ((A.length : Nat) : Int) = (c.toNat : Int) := by
  rw [bt_getD, h]; simp [List.getD]
theorem num_ne {a b : UInt8} (h : a ≠ b) : (a.toNat : Int) ≠ (b.toNat : Int) := fun e => h (UInt8.toNat_inj.1 (by exact_mod_cast e))
theorem first_eq (x : UInt8) : ∀ (a b r t : List UInt8), a ++ x :: r = b ++ x :: t → x ∉ a → x ∉ b → b = a ∧ r = t
  | [], [], r, t, h, _, _ => by simpa using h
  | [], c :: b, r, t, h, _, hb => by
    simp only [List.nil_append, List.cons_append, List.cons.injEq] at h
    exact absurd (by rw [h.1]; exact List.mem_cons_self) hb
  | c :: a, [], r, t, h, ha, _ => by
    simp only [List.nil_append, List.cons_append, List.cons.injEq] at h
    exact absurd (by rw [h.1]; exact List.mem_cons_self) ha
  | c :: a, d :: b, r, t, h, ha, hb => by
    simp only [List.cons_append, List.cons.injEq] at h
    have := first_eq x a b r t h.2 (fun hm => ha (List.mem_cons_of_mem _ hm)) (fun hm => hb (List.mem_cons_of_mem _ hm))
    exact ⟨by rw [h.1, this.1], this.2⟩
theorem split_loop (s : ByteArray) (hs : s.size ≤ 1000000) (c : UInt8) : ∀ (rest : List UInt8) (done : List UInt8) (A : List UInt8) (acc out : List ByteArray) (cur : List UInt8),
    bl s = A ++ (done ++ rest) → cur = done → c ∉ done → acc.length + rest.length ≤ 1000000 →
    (∃ ls : List (List UInt8), ls ≠ [] ∧ done ++ rest = Lib.join ls [c] ∧ (∀ x ∈ ls, c ∉ x) ∧ out.map bl = ls) →
    Ev (fun k => spec_Split.l0 k s (c.toNat : Int) acc (A.length : Int) ((A.length + done.length : Nat) : Int)) (acc ++ out)
  | [], done, A, acc, out, cur, h, _, hd, ha, hls => by
    obtain ⟨ls, hn, hj, hc, ho⟩ := hls
    have hsz : s.size = A.length + done.length := by rw [← bl_len, h]; simp
    have hl1 : ls = [done] := by
      rcases ls with _ | ⟨y, _ | ⟨z, r⟩⟩
      · exact absurd rfl hn
      · rw [Lib.join_one, List.append_nil] at hj; rw [hj]
      · exfalso
        rw [Lib.join_cons, List.append_nil] at hj
        apply hd
        rw [hj]
        simp [Lib.joinTail]
    have hex : out = [s.extract A.length s.size] := by
      rw [hl1] at ho
      obtain ⟨o, rfl, hob⟩ := List.map_eq_singleton_iff.1 ho
      congr 1
      apply bl_ext
      rw [bl_extract, h, hob, List.append_nil, List.drop_left, List.take_of_length_le (by omega)]
    refine Ev.step (f := fun _ => some _) (fun k => ?_) (Ev.now _)
    simp only [spec_Split.l0]
    rw [if_neg (by omega), if_pos (by omega), if_pos (by omega), if_pos (by simp only [List.length_nil] at ha; omega), hex, Int.toNat_natCast]
  | x :: rest, done, A, acc, out, cur, h, _, hd, ha, hls => by
    obtain ⟨ls, hn, hj, hc, ho⟩ := hls
    have hsz : s.size = A.length + done.length + (rest.length + 1) := by rw [← bl_len, h]; simp; omega
    have hb : bt s ((A.length + done.length : Nat) : Int) = (x.toNat : Int) := by
      have := bt_at' s (A ++ done) rest x (by rw [h, List.append_assoc])
      rwa [List.length_append] at this
    simp only [List.length_cons] at ha
    by_cases hx : x = c
    · subst hx
      -- the first element ends here
      rcases ls with _ | ⟨y, r⟩
      · exact absurd rfl hn
      rcases r with _ | ⟨z, r⟩
      · exfalso
        rw [Lib.join_one] at hj
        exact hc y List.mem_cons_self (by rw [← hj]; simp)
      obtain ⟨o, out', rfl⟩ : ∃ o out', out = o :: out' := by
        cases out with
        | nil => cases ho
        | cons o out' => exact ⟨o, out', rfl⟩
      rw [List.map_cons] at ho
      injection ho with ho1 ho2
      have hj' : done ++ x :: rest = y ++ x :: Lib.join (z :: r) [x] := by
        rw [hj, Lib.join_cons, Lib.join_cons]
        simp [Lib.joinTail]
      have hyd : y = done ∧ rest = Lib.join (z :: r) [x] := by
        exact first_eq x done y rest _ hj' hd (hc y List.mem_cons_self)
      have hex : s.extract A.length (A.length + done.length) = o := by
        apply bl_ext
        rw [bl_extract, h, ho1, hyd.1, List.drop_left, Nat.add_sub_cancel_left, List.take_left]
      have ih := split_loop s hs x rest [] (A ++ (done ++ [x])) (acc ++ [o]) out' [] (by rw [h]; simp) rfl (by simp) (by simp only [List.length_append, List.length_cons, List.length_nil]; omega)
        ⟨z :: r, by simp, hyd.2, fun q hq => hc q (List.mem_cons_of_mem _ hq), ho2⟩
      have el : (A ++ (done ++ [x])).length = A.length + done.length + 1 := by simp; omega
      rw [el, List.length_nil, Nat.add_zero] at ih
      rw [show acc ++ o :: out' = (acc ++ [o]) ++ out' by simp]
      refine Ev.step (fun k => ?_) ih
      simp only [spec_Split.l0]
      rw [if_pos (by omega), if_pos (by omega), hb, if_pos rfl, if_pos (by omega), if_pos (by omega), if_pos (by omega), if_pos (by omega), upI _ (by omega), Int.toNat_natCast, Int.toNat_natCast, hex]
    · have ih := split_loop s hs c rest (done ++ [x]) A acc out (done ++ [x]) (by rw [h]; simp) rfl (by simp [hd]; exact fun e => hx e.symm) (by omega) ⟨ls, hn, by rw [← hj]; simp, hc, ho⟩
      rw [List.length_append, List.length_cons, List.length_nil] at ih
      refine Ev.step (fun k => ?_) ih
      simp only [spec_Split.l0]
      rw [if_pos (by omega), if_pos (by omega), hb, if_neg (num_ne hx), upI _ (by omega)]
      rfl
/-- What was joined is split. -/
theorem split (s : ByteArray) (hs : s.size ≤ 1000000) (c : UInt8) (l : List ByteArray) (hn : l ≠ []) (hj : bl s = Lib.join (l.map bl) [c]) (hc : ∀ x ∈ l, c ∉ bl x) : Ev (fun k => spec_Split.f k s (c.toNat : Int)) l := by
  have := split_loop s hs c (bl s) [] [] [] l [] rfl rfl (by simp) (by rw [bl_len]; simpa using hs) ⟨l.map bl, by simpa using hn, hj, fun x hx => by obtain ⟨y, hy, rfl⟩ := List.mem_map.1 hx; exact hc y hy, rfl⟩
  exact this
theorem cut_loop (s : ByteArray) (hs : s.size ≤ 1000000) (c : UInt8) (A B : List UInt8) (h : bl s = A ++ c :: B) (hA : c ∉ A) : ∀ (d i : Nat), d = A.length - i → i ≤ A.length →
    Ev (fun k => spec_Cut.l0 k s (c.toNat : Int) (i : Int)) (mk A, mk B, true)
  | 0, i, hd, hi => by
    have e : i = A.length := by omega
    subst e
    have hsz : s.size = A.length + (B.length + 1) := by rw [← bl_len, h]; simp
    have hb := bt_at' s A B c h
    have e1 : s.extract 0 A.length = mk A := bl_ext (by rw [bl_extract, bl_mk, h, List.drop_zero, Nat.sub_zero, List.take_left])
    have e2 : s.extract (A.length + 1) s.size = mk B := bl_ext (by
      rw [bl_extract, bl_mk, h, show A ++ c :: B = (A ++ [c]) ++ B by simp, List.drop_left' (by simp), List.take_of_length_le (by omega)])
    refine Ev.step (f := fun _ => some _) (fun k => ?_) (Ev.now _)
    simp only [spec_Cut.l0]
    rw [if_pos (by omega), if_pos (by omega), hb, if_pos rfl, if_pos (by omega), upI _ (by omega), if_pos (by omega), if_pos (by omega), Int.toNat_natCast, Int.toNat_natCast, e1, e2]
  | d + 1, i, hd, hi => by
    have hin : i < A.length := by omega
    have hsz : s.size = A.length + (B.length + 1) := by rw [← bl_len, h]; simp
    have hb : bt s (i : Int) = (A[i].toNat : Int) := by rw [bt_getD, h]; simp [List.getD, List.getElem?_append_left hin, hin]
    have hne : A[i] ≠ c := fun e => hA (by rw [← e]; exact List.getElem_mem hin)
    refine Ev.step (fun k => ?_) (cut_loop s hs c A B h hA d (i + 1) (by omega) (by omega))
    simp only [spec_Cut.l0]
    rw [if_pos (by omega), if_pos (by omega), hb, if_neg (num_ne hne), upI i (by omega)]
theorem cut (s : ByteArray) (hs : s.size ≤ 1000000) (c : UInt8) (A B : List UInt8) (h : bl s = A ++ c :: B) (hA : c ∉ A) : Ev (fun k => spec_Cut.f k s (c.toNat : Int)) (mk A, mk B, true) := cut_loop s hs c A B h hA A.length 0 (by omega) (by omega)

/-! ### Words -/
/-- No mark of an address. -/
def NoMark (l : List UInt8) : Prop := (44 : UInt8) ∉ l ∧ (58 : UInt8) ∉ l ∧ (59 : UInt8) ∉ l ∧ (61 : UInt8) ∉ l
def Word (s : ByteArray) : Prop := NoMark (bl s) ∧ s.size ≤ 50
theorem word_step (s : ByteArray) (hs : s.size ≤ 2147483647) (i : Nat) (hi : i < s.size) :
    ((∀ k, laws_adWord.l0 (k + 1) s (i : Int) = laws_adWord.l0 k s ((i + 1 : Nat) : Int)) ∧ bt s (i : Int) ≠ 44 ∧ bt s (i : Int) ≠ 58 ∧ bt s (i : Int) ≠ 59 ∧ bt s (i : Int) ≠ 61) ∨ (∀ k, laws_adWord.l0 (k + 1) s (i : Int) = some false) := by
  have u := upI i (by omega)
  have h1 : (i : Int) < (s.size : Int) := by omega
  have h2 : (0 : Int) ≤ (i : Int) := by omega
  obtain ⟨b, hb⟩ : ∃ b, bt s (i : Int) = b := ⟨_, rfl⟩
  by_cases m : b = 44 ∨ b = 58 ∨ b = 59 ∨ b = 61
  · right
    intro k
    simp only [laws_adWord.l0]
    rw [if_pos h1, if_pos h2, hb]
    rcases m with rfl | rfl | rfl | rfl
    · rw [if_pos (by decide), if_pos (by decide), if_neg (by decide), if_neg (by decide)]
    · rw [if_pos (by decide), if_neg (by decide), if_pos (by decide), if_neg (by decide), if_neg (by decide)]
    · rw [if_pos (by decide), if_neg (by decide), if_pos (by decide), if_neg (by decide), if_neg (by decide)]
    · rw [if_pos (by decide), if_neg (by decide), if_pos (by decide), if_neg (by decide), if_neg (by decide)]
  · have q : bt s (i : Int) ≠ 44 ∧ bt s (i : Int) ≠ 58 ∧ bt s (i : Int) ≠ 59 ∧ bt s (i : Int) ≠ 61 := by rw [hb]; omega
    have : (∀ k, laws_adWord.l0 (k + 1) s (i : Int) = laws_adWord.l0 k s ((i + 1 : Nat) : Int)) ∨ (∀ k, laws_adWord.l0 (k + 1) s (i : Int) = some false) := by
      simp only [laws_adWord.l0, if_pos h1, if_pos h2, hb, u]
      clear hb m q u
      by_cases c1 : Go.bits .or .u8 b 32 < 97 <;> by_cases c2 : Go.bits .or .u8 b 32 > 122 <;> by_cases c3 : b < 48 <;> by_cases c4 : b > 57 <;> by_cases c5 : b = 45 <;> by_cases c6 : b = 95 <;>
        first
          | (left; intro k; simp only [c1, c2, c3, c4, c5, c6, if_true, if_false]; done)
          | (right; intro k; simp only [c1, c2, c3, c4, c5, c6, if_true, if_false]; done)
          | (exfalso; omega)
          | (left; intro k; subst c5; simp_all; done)
          | (left; intro k; subst c6; simp_all; done)
          | (right; intro k; simp_all; done)
          | (left; intro k; simp_all; done)
    rcases this with h | h
    · exact .inl ⟨h, q⟩
    · exact .inr h
theorem word_loop (s : ByteArray) (hs : s.size ≤ 2147483647) : ∀ (d i : Nat), d = s.size - i → i ≤ s.size →
    ∃ r, Ev (fun k => laws_adWord.l0 k s (i : Int)) r ∧ (r = true → NoMark ((bl s).drop i) ∧ s.size ≤ 50)
  | 0, i, hd, hi => by
    have hdr : (bl s).drop i = [] := List.drop_eq_nil_of_le (by rw [bl_len]; omega)
    by_cases h0 : s.toList = ([] : List UInt8)
    · refine ⟨false, Ev.step (f := fun _ => some false) (fun k => ?_) (Ev.now _), fun h => by cases h⟩
      simp only [laws_adWord.l0]
      rw [if_neg (by omega)]
      simp [h0]
    · refine ⟨decide ((s.size : Int) ≤ 50), Ev.step (f := fun _ => some (decide ((s.size : Int) ≤ 50))) (fun k => ?_) (Ev.now _), fun h => ⟨by rw [hdr]; exact ⟨by simp, by simp, by simp, by simp⟩, by have := of_decide_eq_true h; omega⟩⟩
      simp only [laws_adWord.l0]
      rw [if_neg (by omega)]
      simp [h0]
  | d + 1, i, hd, hi => by
    have hin : i < s.size := by omega
    have hin' : i < (bl s).length := hin
    rcases word_step s hs i hin with ⟨h, q⟩ | h
    · obtain ⟨r, hr, hr2⟩ := word_loop s hs d (i + 1) (by omega) (by omega)
      refine ⟨r, Ev.step h hr, fun e => ⟨?_, (hr2 e).2⟩⟩
      obtain ⟨⟨g1, g2, g3, g4⟩, _⟩ := hr2 e
      rw [List.drop_eq_getElem_cons hin']
      rw [bt_nat s i hin'] at q
      refine ⟨fun m => ?_, fun m => ?_, fun m => ?_, fun m => ?_⟩
      · rcases List.mem_cons.1 m with m | m
        · exact q.1 (by rw [← m]; rfl)
        · exact g1 m
      · rcases List.mem_cons.1 m with m | m
        · exact q.2.1 (by rw [← m]; rfl)
        · exact g2 m
      · rcases List.mem_cons.1 m with m | m
        · exact q.2.2.1 (by rw [← m]; rfl)
        · exact g3 m
      · rcases List.mem_cons.1 m with m | m
        · exact q.2.2.2 (by rw [← m]; rfl)
        · exact g4 m
    · exact ⟨false, Ev.step (f := fun _ => some false) h (Ev.now _), fun e => by cases e⟩
theorem word (s : ByteArray) (hs : s.size ≤ 2147483647) : ∃ r, Ev (fun k => laws_adWord.f k s) r ∧ (r = true → Word s) := by
  obtain ⟨r, hr, h⟩ := word_loop s hs s.size 0 (by omega) (by omega)
  exact ⟨r, hr, fun e => by have := h e; rwa [List.drop_zero] at this⟩

/-! ### Sizes -/
theorem fits5_loop (l : List ByteArray) (hl : l.length ≤ 2147483647) : ∀ (d i : Nat), d = l.length - i → i ≤ l.length →
    ∃ r, Ev (fun k => laws_zzFits5.l0 k l (l.length : Int) (i : Int)) r ∧ (r = true → ∀ j (h : j < l.length), i ≤ j → l[j].size ≤ 2147483647)
  | 0, i, hd, hi => ⟨true, Ev.step (f := fun _ => some true) (fun k => by simp only [laws_zzFits5.l0]; rw [if_neg (by omega)]) (Ev.now _), fun _ j h1 h2 => by omega⟩
  | d + 1, i, hd, hi => by
    have hin : i < l.length := by omega
    obtain ⟨r, hr, hr2⟩ := fits5_loop l hl d (i + 1) (by omega) (by omega)
    by_cases hf : (l[i].size : Int) > 2147483647
    · refine ⟨false, Ev.step (f := fun _ => some false) (fun k => ?_) (Ev.now _), fun e => by cases e⟩
      simp only [laws_zzFits5.l0]
      rw [if_pos (by omega), if_pos (by omega), if_pos (by omega), rdS l i hin, if_pos hf]
    · refine ⟨r, Ev.step (fun k => ?_) hr, fun e j hj hij => ?_⟩
      · simp only [laws_zzFits5.l0]
        rw [if_pos (by omega), if_pos (by omega), if_pos (by omega), rdS l i hin, if_neg hf, upI i (by omega)]
      · rcases Nat.lt_or_ge i j with h6 | h6
        · exact hr2 e j hj h6
        · have : j = i := by omega
          subst this; omega
theorem fits5 (l : List ByteArray) : ∃ r, Ev (fun k => laws_zzFits5.f k l) r ∧ (r = true → l.length ≤ 2147483647 ∧ ∀ x ∈ l, x.size ≤ 2147483647) := by
  by_cases h : (l.length : Int) > 2147483647
  · exact ⟨false, Ev.congr (fun k => by unfold laws_zzFits5.f; rw [if_pos h]) (Ev.now _), fun h => by cases h⟩
  · obtain ⟨r, hr, hr2⟩ := fits5_loop l (by omega) l.length 0 (by omega) (by omega)
    refine ⟨r, Ev.congr (fun k => by unfold laws_zzFits5.f; rw [if_neg h]; rfl) hr, fun e => ⟨by omega, fun x hx => ?_⟩⟩
    obtain ⟨j, hj, rfl⟩ := List.mem_iff_getElem.1 hx
    exact hr2 e j hj (by omega)
theorem fits6_loop (l : List (List ByteArray)) (hl : l.length ≤ 2147483647) : ∀ (d i : Nat), d = l.length - i → i ≤ l.length →
    ∃ r, Ev (fun k => laws_zzFits6.l0 k l (l.length : Int) (i : Int)) r ∧ (r = true → ∀ j (h : j < l.length), i ≤ j → l[j].length ≤ 2147483647 ∧ ∀ x ∈ l[j], x.size ≤ 2147483647)
  | 0, i, hd, hi => ⟨true, Ev.step (f := fun _ => some true) (fun k => by simp only [laws_zzFits6.l0]; rw [if_neg (by omega)]) (Ev.now _), fun _ j h1 h2 => by omega⟩
  | d + 1, i, hd, hi => by
    have hin : i < l.length := by omega
    obtain ⟨r, hr, hr2⟩ := fits6_loop l hl d (i + 1) (by omega) (by omega)
    obtain ⟨q, hq, hq2⟩ := fits5 l[i]
    have st : ∀ k, laws_zzFits6.l0 (k + 1) l (l.length : Int) (i : Int) = (laws_zzFits5.f k l[i]).bind fun t => if t = true then laws_zzFits6.l0 k l (l.length : Int) ((i + 1 : Nat) : Int) else some false := by
      intro k
      simp only [laws_zzFits6.l0]
      rw [if_pos (by omega), if_pos (by omega), if_pos (by omega), rdL l i hin, upI i (by omega)]
    cases q with
    | false => exact ⟨false, Ev.step st (Ev.bind hq (Ev.congr (fun k => by rw [if_neg (by decide)]) (Ev.now _))), fun e => by cases e⟩
    | true =>
      refine ⟨r, Ev.step st (Ev.bind hq (Ev.congr (fun k => by rw [if_pos rfl]) hr)), fun e j hj hij => ?_⟩
      rcases Nat.lt_or_ge i j with h6 | h6
      · exact hr2 e j hj h6
      · have : j = i := by omega
        subst this; exact hq2 rfl
theorem fits6 (l : List (List ByteArray)) : ∃ r, Ev (fun k => laws_zzFits6.f k l) r ∧ (r = true → l.length ≤ 2147483647 ∧ ∀ y ∈ l, y.length ≤ 2147483647 ∧ ∀ x ∈ y, x.size ≤ 2147483647) := by
  by_cases h : (l.length : Int) > 2147483647
  · exact ⟨false, Ev.congr (fun k => by unfold laws_zzFits6.f; rw [if_pos h]) (Ev.now _), fun h => by cases h⟩
  · obtain ⟨r, hr, hr2⟩ := fits6_loop l (by omega) l.length 0 (by omega) (by omega)
    refine ⟨r, Ev.congr (fun k => by unfold laws_zzFits6.f; rw [if_neg h]; rfl) hr, fun e => ⟨by omega, fun x hx => ?_⟩⟩
    obtain ⟨j, hj, rfl⟩ := List.mem_iff_getElem.1 hx
    exact hr2 e j hj (by omega)
end Go.Proofs.Ytpgpkdickcdlpaa.MFnAdAddressa
