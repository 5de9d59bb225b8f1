/- The match rule of plain options (at most 40, of at most 300 bytes each) without one of them reads as the rule of all of them without that term; of other options nothing is said. -/
import Derived.Test.YtbemkokigpcmdaaMFnMtRuleDropp
import Derived.OpenShut
namespace Go.Proofs.Ytbemkokigpcmdaa.Pure
open Go Go.RowKit Go.Proofs.Ytbemkokigpcmdaa.MFnMtRuleDrop Go.Proofs.YtbemkokigpcmdaaW.PrintWords Go.Proofs.YtbemkokigpcmdaaW.PrintLast Go.Proofs.Ytbemkokigpcmdaa.Hlp Go.Proofs.Ytbemkokigpcmdaa.MFnMtRuleDropp
set_option linter.unusedVariables false

theorem downI (n : Nat) (h : 0 < n) (h2 : n ≤ 40) : wrap64 ((n : Int) - 1) = ((n - 1 : Nat) : Int) := by rw [w64 (by omega) (by omega)]; omega
theorem rd32 (l : List S32) (i : Nat) (h : i < l.length) : rd_T32 l (i : Int) = l[i] := by simp [rd_T32, List.getD, h]
def to32 (t : S28) : S32 := ⟨t.f0, t.f1⟩
/-- A byte in the middle of a text. -/
theorem bt_mid (s : ByteArray) (A B : List UInt8) (c : UInt8) (h : bl s = A ++ c :: B) : bt s ((A.length : Nat) : Int) = (c.toNat : Int) := by
  rw [bt_getD, h]; simp [List.getD]
theorem bt_in (s t : ByteArray) (A B : List UInt8) (j : Nat) (h : bl s = A ++ (bl t ++ B)) (hj : j < t.size) : bt s ((A.length + j : Nat) : Int) = bt t (j : Int) := by
  have hj' : j < (bl t).length := hj
  rw [bt_getD, bt_getD, h]
  simp only [List.getD]
  rw [List.getElem?_append_right (by omega), Nat.add_sub_cancel_left, List.getElem?_append_left hj']
theorem ext_in (s t : ByteArray) (A B : List UInt8) (h : bl s = A ++ (bl t ++ B)) : s.extract A.length (A.length + t.size) = t := by
  apply bl_ext
  rw [bl_extract, h, List.drop_left, Nat.add_sub_cancel_left, ← bl_len, List.take_left]

theorem scan_key (s key : ByteArray) (A B : List UInt8) (acc : List S32) (h : bl s = A ++ (bl key ++ 61 :: B)) (hk : KeyOk key) (hs : s.size ≤ 24160) (r : List S32 × Bool)
    (h0 : Ev (fun k => spec_ReadRule.j2 k s acc ((A.length + key.size : Nat) : Int) (A.length : Int)) r) :
    ∀ (d j : Nat), d = key.size - j → j ≤ key.size → Ev (fun k => spec_ReadRule.l1 k s acc ((A.length + j : Nat) : Int) (A.length : Int)) r
  | 0, j, hd, hj => by
    have e : j = key.size := by omega
    subst e
    have hsz : s.size = A.length + (key.size + (B.length + 1)) := by rw [← bl_len, h]; simp [bl_len]
    refine Ev.step (fun k => ?_) h0
    have hb : bt s ((A.length + key.size : Nat) : Int) = 61 := by
      have := bt_mid s (A ++ bl key) B 61 (by rw [h, List.append_assoc])
      rw [List.length_append, bl_len] at this
      exact this
    simp only [spec_ReadRule.l1]
    rw [if_pos (by omega), if_pos (by omega), hb, if_pos rfl]
  | d + 1, j, hd, hj => by
    have ih := scan_key s key A B acc h hk hs r h0 d (j + 1) (by omega) (by omega)
    have hsz : s.size = A.length + (key.size + (B.length + 1)) := by rw [← bl_len, h]; simp [bl_len]
    have hb := bt_in s key A (61 :: B) j h (by omega)
    have hn := hk.2 j (by omega)
    refine Ev.step (fun k => ?_) ih
    simp only [spec_ReadRule.l1]
    rw [if_pos (by omega), if_pos (by omega), hb, if_neg hn.1, if_neg hn.2.1, upI (A.length + j) (by omega)]
    rfl
theorem scan_val (s key val : ByteArray) (A B : List UInt8) (acc : List S32) (h : bl s = A ++ (bl val ++ 39 :: B)) (hk : ValOk val) (hs : s.size ≤ 24160) (r : List S32 × Bool)
    (h0 : Ev (fun k => spec_ReadRule.l2 k s acc ((A.length + val.size + 1 : Nat) : Int) false key val) r) :
    ∀ (d j : Nat) (x : ByteArray), d = val.size - j → j ≤ val.size → bl x = (bl val).take j → Ev (fun k => spec_ReadRule.l2 k s acc ((A.length + j : Nat) : Int) true key x) r
  | 0, j, x, hd, hj, hx => by
    have e : j = val.size := by omega
    subst e
    have hsz : s.size = A.length + (val.size + (B.length + 1)) := by rw [← bl_len, h]; simp [bl_len]
    have ex : x = val := bl_ext (by rw [hx, ← bl_len, List.take_length])
    subst ex
    have hb : bt s ((A.length + x.size : Nat) : Int) = 39 := by
      have := bt_mid s (A ++ bl x) B 39 (by rw [h, List.append_assoc])
      rw [List.length_append, bl_len] at this
      exact this
    refine Ev.step (f := fun k => spec_ReadRule.j5 k s acc ((A.length + x.size : Nat) : Int) true true key x) (fun k => ?_) (Ev.step (fun k => ?_) h0)
    · simp only [spec_ReadRule.l2]
      rw [if_pos (by omega), if_pos trivial]
    · simp only [spec_ReadRule.j5]
      rw [if_pos trivial, if_pos (by omega), if_pos (by omega), hb, if_pos rfl, upI (A.length + x.size) (by omega)]
      rfl
  | d + 1, j, x, hd, hj, hx => by
    have hsz : s.size = A.length + (val.size + (B.length + 1)) := by rw [← bl_len, h]; simp [bl_len]
    have hjl : j < (bl val).length := by rw [bl_len]; omega
    have hb := bt_in s val A (39 :: B) j h (by omega)
    have hn := hk.2 j (by omega)
    have hone : bl (s.extract (A.length + j) (A.length + j + 1)) = [(bl val)[j]] := by
      rw [bl_extract, h, Nat.add_sub_cancel_left, List.drop_append, List.drop_eq_nil_of_le (by omega), List.nil_append, Nat.add_sub_cancel_left, List.drop_append, List.drop_eq_getElem_cons hjl]
      rfl
    have hxs : x.size = j := by rw [← bl_len, hx, List.length_take]; omega
    have hes : (s.extract (A.length + j) (A.length + j + 1)).size = 1 := by rw [← bl_len, hone]; rfl
    have ih := scan_val s key val A B acc h hk hs r h0 d (j + 1) (x ++ s.extract (A.length + j) (A.length + j + 1)) (by omega) (by omega) (by rw [bl_append, hone, hx, List.take_succ_eq_append_getElem hjl])
    have hv := hk.1
    refine Ev.step (f := fun k => spec_ReadRule.j5 k s acc ((A.length + j : Nat) : Int) true true key x) (fun k => ?_) (Ev.step (fun k => ?_) ih)
    · simp only [spec_ReadRule.l2]
      rw [if_pos (by omega), if_pos trivial]
    · simp only [spec_ReadRule.j5]
      rw [if_pos trivial, if_pos (by omega), if_pos (by omega), hb, if_neg hn, if_pos trivial, upI (A.length + j) (by omega), if_pos (by omega), if_pos (by omega)]
      simp only [Int.toNat_natCast]
      rw [if_pos (by rw [hes]; omega)]
      rfl
theorem rule_cons (t : S28) (l : List S28) : rule (t :: l) = term t ++ (if l = [] then [] else 44 :: rule l) := by
  unfold rule
  rcases l with _ | ⟨u, l⟩
  · simp [Lib.join_one]
  · rw [List.map_cons, List.map_cons, Lib.join_cons, if_neg (by simp), Lib.join_cons]
    simp [Lib.joinTail]
/-- The reader goes through a rule term by term. -/
theorem read_loop (s : ByteArray) (hs : s.size ≤ 24160) : ∀ (l : List S28) (A : List UInt8) (acc : List S32), bl s = A ++ rule l → (∀ t ∈ l, Ok t) → acc.length + l.length ≤ 40 →
    Ev (fun k => spec_ReadRule.l0 k s acc (A.length : Int)) (acc ++ l.map to32, true)
  | [], A, acc, h, ho, hl => by
    have hsz : s.size = A.length := by rw [← bl_len, h]; simp [rule, Lib.join_nil]
    refine Ev.step (f := fun _ => some _) (fun k => ?_) (Ev.now _)
    simp only [spec_ReadRule.l0]
    rw [if_neg (by omega), List.map_nil, List.append_nil]
  | t :: l, A, acc, h, ho, hl => by
    have hok := ho t List.mem_cons_self
    rw [rule_cons] at h
    have R : ∃ R : List UInt8, R = (if l = [] then [] else 44 :: rule l) := ⟨_, rfl⟩
    obtain ⟨R, hR⟩ := R
    rw [← hR] at h
    have h1 : bl s = A ++ (bl t.f0 ++ 61 :: (39 :: (bl t.f1 ++ 39 :: R))) := by rw [h]; simp [term]
    have h2 : bl s = (A ++ (bl t.f0 ++ [61, 39])) ++ (bl t.f1 ++ 39 :: R) := by rw [h]; simp [term]
    have h3 : bl s = (A ++ (bl t.f0 ++ [61])) ++ 39 :: (bl t.f1 ++ 39 :: R) := by rw [h]; simp [term]
    have hsz : s.size = A.length + (t.f0.size + (2 + (t.f1.size + (1 + R.length)))) := by
      rw [← bl_len, h1]; simp only [List.length_append, List.length_cons, bl_len]; omega
    have hl' : acc.length + (l.length + 1) ≤ 40 := hl
    -- behind the term
    have hend : Ev (fun k => spec_ReadRule.l2 k s acc ((A.length + t.f0.size + 2 + t.f1.size + 1 : Nat) : Int) false t.f0 t.f1) (acc ++ (t :: l).map to32, true) := by
      by_cases hn : l = []
      · have hRn : R = [] := by rw [hR, if_pos hn]
        rw [hRn] at hsz
        have hsz' : s.size = A.length + t.f0.size + 2 + t.f1.size + 1 := by simp only [List.length_nil] at hsz; omega
        rw [hn, List.map_cons, List.map_nil]
        refine Ev.step (f := fun k => spec_ReadRule.j5 k s acc ((A.length + t.f0.size + 2 + t.f1.size + 1 : Nat) : Int) false false t.f0 t.f1) (fun k => ?_)
          (Ev.step (f := fun k => spec_ReadRule.l0 k s (acc ++ [to32 t]) ((A.length + t.f0.size + 2 + t.f1.size + 1 : Nat) : Int)) (fun k => ?_) (Ev.step (f := fun _ => some (acc ++ [to32 t], true)) (fun k => ?_) (Ev.now _)))
        · simp only [spec_ReadRule.l2]
          rw [if_neg (by omega)]
        · simp only [spec_ReadRule.j5]
          rw [if_neg (by decide), if_neg (by decide), if_pos (by omega), Option.bind_some, if_neg (by omega)]
          rfl
        · simp only [spec_ReadRule.l0]
          rw [if_neg (by omega)]
      · have hRn : R = 44 :: rule l := by rw [hR, if_neg hn]
        have h4 : bl s = (A ++ (bl t.f0 ++ ([61, 39] ++ (bl t.f1 ++ [39])))) ++ 44 :: rule l := by rw [h, hRn]; simp [term]
        have h5 : bl s = (A ++ (bl t.f0 ++ ([61, 39] ++ (bl t.f1 ++ [39, 44])))) ++ rule l := by rw [h, hRn]; simp [term]
        have e4 : (A ++ (bl t.f0 ++ ([61, 39] ++ (bl t.f1 ++ [39])))).length = A.length + t.f0.size + 2 + t.f1.size + 1 := by simp only [List.length_append, List.length_cons, List.length_nil, bl_len]; omega
        have e5 : (A ++ (bl t.f0 ++ ([61, 39] ++ (bl t.f1 ++ [39, 44])))).length = A.length + t.f0.size + 2 + t.f1.size + 1 + 1 := by simp only [List.length_append, List.length_cons, List.length_nil, bl_len]; omega
        have hb := bt_mid s _ _ 44 h4
        rw [e4] at hb
        have hb' : bt s ((A.length + t.f0.size + 2 + t.f1.size + 1 : Nat) : Int) = 44 := hb
        have ih := read_loop s hs l _ (acc ++ [to32 t]) h5 (fun u hu => ho u (List.mem_cons_of_mem _ hu)) (by simp only [List.length_append, List.length_cons, List.length_nil]; omega)
        rw [e5] at ih
        have hpos : 0 < (rule l).length := by
          rcases l with _ | ⟨u, l⟩
          · exact absurd rfl hn
          · rw [rule_cons, List.length_append]; simp only [term, List.length_append, List.length_cons, List.length_nil]; omega
        have hsz2 : s.size = A.length + t.f0.size + 2 + t.f1.size + 1 + 1 + (rule l).length := by rw [← bl_len, h5, List.length_append, e5]
        have eo : acc ++ (t :: l).map to32 = (acc ++ [to32 t]) ++ l.map to32 := by simp
        rw [eo]
        refine Ev.step (f := fun k => spec_ReadRule.j5 k s acc ((A.length + t.f0.size + 2 + t.f1.size + 1 : Nat) : Int) false false t.f0 t.f1) (fun k => ?_) (Ev.step (fun k => ?_) ih)
        · simp only [spec_ReadRule.l2]
          rw [if_pos (by omega), if_neg (by decide), if_pos (by omega), hb']
          rfl
        · simp only [spec_ReadRule.j5]
          rw [if_neg (by decide), if_neg (by decide), if_pos (by omega), Option.bind_some, if_pos (by omega), upI _ (by omega), if_neg (by omega)]
          rfl
    have e2 : (A ++ (bl t.f0 ++ [61, 39])).length = A.length + t.f0.size + 2 := by simp only [List.length_append, List.length_cons, List.length_nil, bl_len]; omega
    have e3 : (A ++ (bl t.f0 ++ [61])).length = A.length + t.f0.size + 1 := by simp only [List.length_append, List.length_cons, List.length_nil, bl_len]; omega
    have hval := scan_val s t.f0 t.f1 _ R acc h2 hok.2 hs (acc ++ (t :: l).map to32, true) (by rw [e2]; exact hend) t.f1.size 0 ⟨#[]⟩ (by omega) (by omega) rfl
    rw [e2] at hval
    have hq := bt_mid s _ _ 39 h3
    rw [e3] at hq
    have hq' : bt s ((A.length + t.f0.size + 1 : Nat) : Int) = 39 := hq
    have hopen : Ev (fun k => spec_ReadRule.l2 k s acc ((A.length + t.f0.size + 1 : Nat) : Int) false t.f0 ⟨#[]⟩) (acc ++ (t :: l).map to32, true) := by
      refine Ev.step (f := fun k => spec_ReadRule.j5 k s acc ((A.length + t.f0.size + 1 : Nat) : Int) false true t.f0 ⟨#[]⟩) (fun k => ?_) (Ev.step (fun k => ?_) hval)
      · simp only [spec_ReadRule.l2]
        rw [if_pos (by omega), if_neg (by decide), if_pos (by omega), hq']
        rfl
      · simp only [spec_ReadRule.j5]
        rw [if_pos trivial, if_pos (by omega), if_pos (by omega), hq', if_pos rfl, upI _ (by omega)]
        rfl
    have heq : bt s ((A.length + t.f0.size : Nat) : Int) = 61 := by
      have := bt_mid s (A ++ bl t.f0) (39 :: (bl t.f1 ++ 39 :: R)) 61 (by rw [h1, List.append_assoc])
      rw [List.length_append, bl_len] at this
      exact this
    have hex := ext_in s t.f0 A _ h1
    have hj : Ev (fun k => spec_ReadRule.j2 k s acc ((A.length + t.f0.size : Nat) : Int) (A.length : Int)) (acc ++ (t :: l).map to32, true) := by
      refine Ev.step (f := fun k => spec_ReadRule.j3 k s acc ((A.length + t.f0.size : Nat) : Int) (A.length : Int) false) (fun k => ?_) (Ev.step (fun k => ?_) hopen)
      · simp only [spec_ReadRule.j2]
        rw [if_neg (by omega), if_pos (by omega), if_pos (by omega), heq]
        rfl
      · simp only [spec_ReadRule.j3]
        rw [if_neg (by decide), if_pos (by omega), if_pos (by omega), if_pos (by omega), upI _ (by omega)]
        simp only [Int.toNat_natCast]
        rw [hex]
    have hkey := scan_key s t.f0 A _ acc h1 hok.1 hs _ hj t.f0.size 0 (by omega) (by omega)
    refine Ev.step (fun k => ?_) hkey
    simp only [spec_ReadRule.l0]
    rw [if_pos (by omega)]
    rfl
theorem read_rule (l : List S28) (h : Plain l) : Ev (fun k => spec_ReadRule.f k ⟨(rule l).toArray⟩) (l.map to32, true) := by
  have := read_loop ⟨(rule l).toArray⟩ (by have := rule_len l h; rw [← bl_len]; simpa [bl] using this) l [] [] (by simp [bl]) h.2 (by have := h.1; simpa using this)
  rw [List.nil_append] at this
  exact this
theorem cmp_loop (l : List S28) (m : Nat) (hl : l.length ≤ 40) (hm : m < l.length) : ∀ (d i : Nat), d = (l.length - 1) - i → i ≤ l.length - 1 →
    Ev (fun k => laws_FnMtRuleDrop.l0 k (m : Int) (l.map to32) ((l.take m ++ l.drop (m + 1)).map to32) (((l.take m ++ l.drop (m + 1)).map to32).length : Int) (i : Int)) true
  | 0, i, hd, hi => by
    have hlen : ((l.take m ++ l.drop (m + 1)).map to32).length = l.length - 1 := by rw [List.length_map, List.length_append, List.length_take, List.length_drop]; omega
    refine Ev.step (f := fun _ => some true) (fun k => ?_) (Ev.now _)
    simp only [laws_FnMtRuleDrop.l0]
    rw [if_neg (by omega)]
  | d + 1, i, hd, hi => by
    have hlen : ((l.take m ++ l.drop (m + 1)).map to32).length = l.length - 1 := by rw [List.length_map, List.length_append, List.length_take, List.length_drop]; omega
    have ih := cmp_loop l m hl hm d (i + 1) (by omega) (by omega)
    refine Ev.step (fun k => ?_) ih
    simp only [laws_FnMtRuleDrop.l0]
    have u := upI i (by omega)
    rw [if_pos (by omega), if_pos (by omega), if_pos (by omega)]
    have hi1 : i < ((l.take m ++ l.drop (m + 1)).map to32).length := by omega
    by_cases hc : m ≤ i
    · have e1 : rd_T32 ((l.take m ++ l.drop (m + 1)).map to32) (i : Int) = to32 (l[i + 1]'(by omega)) := by
        rw [rd32 _ i hi1]
        simp only [List.getElem_map]
        congr 1
        rw [List.getElem_append_right (by rw [List.length_take]; omega), List.getElem_drop]
        congr 1
        rw [List.length_take]; omega
      have e2 : rd_T32 (l.map to32) ((i + 1 : Nat) : Int) = to32 (l[i + 1]'(by omega)) := by rw [rd32 _ (i + 1) (by rw [List.length_map]; omega)]; simp
      rw [if_pos (by omega), u, if_pos (by omega), if_pos (by rw [List.length_map]; omega), e1, e2, if_neg (by simp)]
    · have e1 : rd_T32 ((l.take m ++ l.drop (m + 1)).map to32) (i : Int) = to32 (l[i]'(by omega)) := by
        rw [rd32 _ i hi1]
        simp only [List.getElem_map]
        congr 1
        rw [List.getElem_append_left (by rw [List.length_take]; omega), List.getElem_take]
      have e2 : rd_T32 (l.map to32) (i : Int) = to32 (l[i]'(by omega)) := by rw [rd32 _ i (by rw [List.length_map]; omega)]; simp
      rw [if_neg (by omega), if_pos (by rw [List.length_map]; omega), e1, e2, if_neg (by simp), u]
set_option maxHeartbeats 1000000 in
theorem FnMtRuleDrop (l : List S28) (which : Int) (hw : 0 ≤ which ∧ which ≤ 255) : ∃ k, laws_FnMtRuleDrop.f k l which = some true := by
  suffices h : Ev (fun k => laws_FnMtRuleDrop.f k l which) true from h.rounds
  have yes : Ev (fun k => laws_FnMtRuleDrop.j0 k l which true) true := Ev.step (f := fun _ => some true) (fun k => by simp only [laws_FnMtRuleDrop.j0]; rw [if_pos trivial]) (Ev.now _)
  unfold laws_FnMtRuleDrop.f
  obtain ⟨r1, h1, g1⟩ := fits l
  refine Ev.bind h1 ?_
  cases r1 with
  | false => exact Ev.congr (fun k => by rw [if_neg (by decide)]) (Ev.now _)
  | true =>
    refine Ev.congr (fun k => by rw [if_pos rfl]) ?_
    by_cases hz : (l.length : Int) = 0
    · exact Ev.congr (fun k => by rw [if_pos hz]) yes
    obtain ⟨r2, h2, g2⟩ := plain l (g1 rfl)
    refine Ev.congr (fun k => by rw [if_neg hz]) (Ev.bind h2 ?_)
    cases r2 with
    | false => exact yes
    | true =>
      have hp := g2 rfl
      have hl := hp.1
      obtain ⟨m, hm⟩ : ∃ m : Nat, m = (which.toNat % l.length) := ⟨_, rfl⟩
      have hml : m < l.length := by rw [hm]; exact Nat.mod_lt _ (by omega)
      have ew : Int.tmod (wrap64 which) (l.length : Int) = (m : Int) := by
        rw [w64 (by omega) (by omega), Int.tmod_eq_emod_of_nonneg hw.1, hm]
        obtain ⟨n, rfl⟩ : ∃ n : Nat, which = (n : Int) := ⟨which.toNat, by omega⟩
        rfl
      have hq : Plain (l.take m ++ l.drop (m + 1)) := ⟨by rw [List.length_append, List.length_take, List.length_drop]; omega, fun t ht => by
        rcases List.mem_append.1 ht with ht | ht
        · exact hp.2 t (List.mem_of_mem_take ht)
        · exact hp.2 t (List.mem_of_mem_drop ht)⟩
      have hrest : Ev (fun k => laws_FnMtRuleDrop.j1 k (m : Int) (l.map to32) ((l.take m ++ l.drop (m + 1)).map to32) false) true := by
        refine Ev.step (fun k => ?_) (cmp_loop l m hl hml (l.length - 1) 0 (by omega) (by omega))
        simp only [laws_FnMtRuleDrop.j1]
        rw [if_neg (by decide)]
        rfl
      obtain ⟨K1, a1⟩ := impl_rule l hp
      obtain ⟨K2, a2⟩ := read_rule l hp
      obtain ⟨K3, a3⟩ := impl_rule _ hq
      obtain ⟨K4, a4⟩ := read_rule _ hq
      obtain ⟨K5, a5⟩ := hrest
      refine ⟨K1 + K2 + K3 + K4 + K5 + 1, fun n hn => ?_⟩
      obtain ⟨k, rfl⟩ : ∃ k, n = k + 1 := ⟨n - 1, by omega⟩
      have b1 : impl_MtRule.f k l = some ⟨(rule l).toArray⟩ := a1 k (by omega)
      have b2 : spec_ReadRule.f k ⟨(rule l).toArray⟩ = some (l.map to32, true) := a2 k (by omega)
      have b3 : impl_MtRule.f k (l.take m ++ l.drop (m + 1)) = some ⟨(rule (l.take m ++ l.drop (m + 1))).toArray⟩ := a3 k (by omega)
      have b4 : spec_ReadRule.f k ⟨(rule (l.take m ++ l.drop (m + 1))).toArray⟩ = some ((l.take m ++ l.drop (m + 1)).map to32, true) := a4 k (by omega)
      have b5 := a5 k (by omega)
      have c1 : (0 : Int) ≤ (m : Int) := by omega
      have c2 : (m : Int) ≤ (l.length : Int) := by omega
      have c3 : (0 : Int) ≤ ((m + 1 : Nat) : Int) := by omega
      have c4 : ((m + 1 : Nat) : Int) ≤ (l.length : Int) := by omega
      have c5 : ([] : List S28).length + (l.take m).length < 4398046511104 := by rw [List.length_take, List.length_nil]; omega
      have c6 : (l.take m).length + (l.drop (m + 1)).length < 4398046511104 := by rw [List.length_drop, List.length_take]; omega
      have e4 : ((l.take m ++ l.drop (m + 1)).map to32).length = l.length - 1 := by rw [List.length_map, List.length_append, List.length_take, List.length_drop]; omega
      have e5 : ((l.map to32).length : Int) = (l.length : Int) := by rw [List.length_map]
      have u := upI m (by omega)
      have e1 : ((m : Int)).toNat = m := Int.toNat_natCast m
      have e2 : (((m + 1 : Nat) : Int)).toNat = m + 1 := Int.toNat_natCast (m + 1)
      have e3 := downI l.length (Nat.lt_of_le_of_lt (Nat.zero_le m) hml) hl
      show laws_FnMtRuleDrop.j0 (k + 1) l which false = some true
      simp only [laws_FnMtRuleDrop.j0]
      rw [if_neg (by decide), if_neg hz, ew, b1, Option.bind_some, b2, Option.bind_some, Option.bind_some, if_pos c1, if_pos c2, e1, Option.bind_some, if_pos c5, Option.bind_some, u, if_pos c3, if_pos c4, e2, Option.bind_some,
        List.nil_append, if_pos c6, b3, Option.bind_some, b4, Option.bind_some, if_pos (show ((l.map to32, true) : List S32 × Bool).2 = true from rfl), if_pos (show (((l.take m ++ l.drop (m + 1)).map to32, true) : List S32 × Bool).2 = true from rfl), if_pos e5, e3, e4]
      rw [show (((l.length - 1 : Nat) : Int) != ((l.length - 1 : Nat) : Int)) = false by simp]
      exact b5

end Go.Proofs.Ytbemkokigpcmdaa.Pure
