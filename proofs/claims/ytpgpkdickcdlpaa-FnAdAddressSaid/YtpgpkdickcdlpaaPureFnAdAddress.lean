/- Addresses (at most 10, of at most 10 keys each, transports and keys of at most 50 bytes without marks, values of at most 300 bytes) that are written with colons, equals signs, commas, semicolons and escapes are read by these marks alone as the transports, keys and values; of other inputs nothing is said. -/
import Derived.Test.YtpgpkdickcdlpaaMFnAdAddressx7
import Derived.Test.YtpgpkdickcdlpaaMFnAdAddressa
namespace Go.Proofs.Ytpgpkdickcdlpaa.Pure
open Go Go.RowKit Go.Proofs.Ytpgpkdickcdlpaa.MFnAdAddress Go.Proofs.YtpgpkdickcdlpaaW.PrintWords Go.Proofs.YtpgpkdickcdlpaaW.PrintLast Go.Proofs.Ytpgpkdickcdlpaa.Hlp Go.Proofs.Ytpgpkdickcdlpaa.MFnAdAddressa
open Go.Proofs.Ytpgpkdickcdlpaa.MFnAdAddresse (nd hi lo enc esc esc_nil esc_cons cnt cnt_le esc_len nums_back escape)
open Go.Proofs.Ytpgpkdickcdlpaa.MFnAdAddressu (hex two un un_plain un_esc told unescape)
set_option linter.unusedVariables false

theorem ev_at {α : Type} {g : Nat → Option α} {r : α} (h : ∃ K, ∀ k, K ≤ k → g (k + 1) = some r) : Ev g r := by
  obtain ⟨K, h⟩ := h
  exact ⟨K + 1, fun n hn => by obtain ⟨m, rfl⟩ : ∃ m, n = m + 1 := ⟨n - 1, by omega⟩; exact h m (by omega)⟩
/-! ### Escapes -/
def b8 (n : Int) : UInt8 := UInt8.ofNat n.toNat
theorem dig_fin : ∀ n : Fin 256, nd (UInt8.ofNat n.val) = true → (hex (b8 (hi (UInt8.ofNat n.val)))).2 = true ∧ (hex (b8 (lo (UInt8.ofNat n.val)))).2 = true ∧ two (b8 (hi (UInt8.ofNat n.val))) (b8 (lo (UInt8.ofNat n.val))) = (n.val : Int) := by decide +kernel
theorem dig (c : UInt8) (h : nd c = true) : (hex (b8 (hi c))).2 = true ∧ (hex (b8 (lo c))).2 = true ∧ two (b8 (hi c)) (b8 (lo c)) = (c.toNat : Int) := by
  have := dig_fin ⟨c.toNat, c.toNat_lt⟩
  simp only [UInt8.ofNat_toNat] at this
  exact this h
theorem nd_37 : nd 37 = true := by decide +kernel
theorem back : ∀ l : List UInt8, un ((esc l).map b8) = some (l.map fun c => (c.toNat : Int))
  | [] => by rw [esc_nil]; rfl
  | c :: r => by
    rw [esc_cons, List.map_append, enc]
    by_cases h : nd c = true
    · obtain ⟨d1, d2, d3⟩ := dig c h
      rw [if_pos h]
      show un (37 :: b8 (hi c) :: b8 (lo c) :: (esc r).map b8) = _
      rw [un_esc, if_pos d1, if_pos d2, d3, back r]; rfl
    · rw [if_neg h]
      have h37 : c ≠ 37 := by intro q; rw [q] at h; exact h nd_37
      have e : b8 (c.toNat : Int) = c := by simp [b8]
      show un (b8 (c.toNat : Int) :: (esc r).map b8) = _
      rw [e, un_plain h37, back r]; rfl
theorem bl_nums (xs : List Int) : bl (strOfNums xs) = xs.map b8 := by simp [bl, strOfNums, b8]
theorem enc_fin : ∀ n : Fin 256, ((enc (UInt8.ofNat n.val)).map b8).all (fun x => x != 44 && x != 58 && x != 59 && x != 61) = true := by decide +kernel
theorem esc_clean : ∀ l : List UInt8, NoMark ((esc l).map b8)
  | [] => by rw [esc_nil]; exact ⟨by simp, by simp, by simp, by simp⟩
  | c :: r => by
    have h := enc_fin ⟨c.toNat, c.toNat_lt⟩
    simp only [UInt8.ofNat_toNat] at h
    obtain ⟨h1, h2, h3, h4⟩ := esc_clean r
    rw [esc_cons, List.map_append]
    have hh : ∀ x ∈ (enc c).map b8, x ≠ 44 ∧ x ≠ 58 ∧ x ≠ 59 ∧ x ≠ 61 := by
      intro x hx
      have := List.all_eq_true.mp h x hx
      simp only [Bool.and_eq_true, bne_iff_ne] at this
      exact ⟨this.1.1.1, this.1.1.2, this.1.2, this.2⟩
    refine ⟨fun m => ?_, fun m => ?_, fun m => ?_, fun m => ?_⟩
    · rcases List.mem_append.1 m with m | m
      · exact (hh _ m).1 rfl
      · exact h1 m
    · rcases List.mem_append.1 m with m | m
      · exact (hh _ m).2.1 rfl
      · exact h2 m
    · rcases List.mem_append.1 m with m | m
      · exact (hh _ m).2.2.1 rfl
      · exact h3 m
    · rcases List.mem_append.1 m with m | m
      · exact (hh _ m).2.2.2 rfl
      · exact h4 m
/-- A value, escaped. -/
def escB (s : ByteArray) : ByteArray := strOfNums (esc (bl s))
theorem escB_clean (s : ByteArray) : NoMark (bl (escB s)) := by unfold escB; rw [bl_nums]; exact esc_clean _
theorem escB_size (s : ByteArray) (h : s.size ≤ 300) : (escB s).size ≤ 900 := by
  have h1 := esc_len (bl s)
  have h2 := cnt_le (bl s)
  rw [bl_len] at h1 h2
  unfold escB
  rw [strOfNums_size]
  omega
theorem esc_ev (s : ByteArray) (h : s.size ≤ 300) : Ev (fun k => impl_AdEscape.f k s) (escB s) := escape s (by omega)
theorem unesc_ev (s : ByteArray) (h : s.size ≤ 300) : Ev (fun k => impl_AdUnescape.f k (escB s)) (s, true) := by
  have hB := unescape (escB s) (by have := escB_size s h; omega)
  have e : bl (escB s) = (esc (bl s)).map b8 := bl_nums _
  rw [e, back] at hB
  rwa [told, nums_back] at hB
theorem esc_eq : escB (⟨#[61]⟩ : ByteArray) = ⟨#[37, 51, 100]⟩ := by
  apply bl_ext
  unfold escB
  rw [bl_nums]
  have : (esc (bl (⟨#[61]⟩ : ByteArray))).map b8 = [37, 51, 100] := by decide +kernel
  rw [this]
  rfl

/-! ### What is written -/
section
variable (T : List ByteArray) (K V : List (List ByteArray))
def tt (i : Nat) : ByteArray := T.getD i ByteArray.empty
def kk (i : Nat) : List ByteArray := K.getD i []
/-- Key, equals sign, escaped value. -/
def termB (i j : Nat) : ByteArray := ((kk K i).getD j ByteArray.empty ++ (⟨#[61]⟩ : ByteArray)) ++ escB ((kk V i).getD j ByteArray.empty)
def terms (i : Nat) : List ByteArray := (List.range (kk K i).length).map (termB K V i)
def inner (i : Nat) : List UInt8 := Lib.join ((terms K V i).map bl) [44]
def partB (i : Nat) : ByteArray := (tt T i ++ (⟨#[58]⟩ : ByteArray)) ++ mk (inner K V i)
def parts : List ByteArray := (List.range T.length).map (partB T K V)
/-- Such inputs as the statement speaks of. -/
structure Fine : Prop where
  n0 : 0 < T.length
  n1 : T.length ≤ 10
  nk : K.length = T.length
  nv : V.length = T.length
  t : ∀ i, i < T.length → Word (tt T i)
  k1 : ∀ i, i < T.length → (kk K i).length ≤ 10
  k2 : ∀ i, i < T.length → (kk K i).length = (kk V i).length
  key : ∀ i j, i < T.length → j < (kk K i).length → Word ((kk K i).getD j ByteArray.empty)
  val : ∀ i j, i < T.length → j < (kk K i).length → ((kk V i).getD j ByteArray.empty).size ≤ 300
end
variable {T : List ByteArray} {K V : List (List ByteArray)}
theorem len_join (ls : List (List UInt8)) (c : UInt8) (m : Nat) (h : ∀ x ∈ ls, x.length ≤ m) : (Lib.join ls [c]).length ≤ (m + 1) * ls.length := by
  rcases ls with _ | ⟨x, r⟩
  · simp [Lib.join_nil]
  · rw [Lib.join_cons, List.length_append, Lib.joinTail_length]
    have : ∀ q : List (List UInt8), (∀ y ∈ q, y.length ≤ m) → Lib.lens q ≤ m * q.length := by
      intro q hq
      induction q with
      | nil => simp [Lib.lens]
      | cons y q ih =>
        have h1 := ih (fun z hz => hq z (List.mem_cons_of_mem _ hz))
        have h2 := hq y List.mem_cons_self
        simp only [Lib.lens, List.map_cons, List.sum_cons, List.length_cons, Nat.mul_succ] at h1 ⊢
        omega
    have h1 := this r fun y hy => h y (List.mem_cons_of_mem _ hy)
    have h2 := h x List.mem_cons_self
    simp only [List.length_cons, List.length_nil, Nat.mul_succ, Nat.add_mul, Nat.one_mul, Nat.zero_add]
    omega
theorem bl_termB (i j : Nat) : bl (termB K V i j) = bl ((kk K i).getD j ByteArray.empty) ++ (61 :: bl (escB ((kk V i).getD j ByteArray.empty))) := by
  unfold termB
  rw [bl_append, bl_append, List.append_assoc]
  rfl
theorem not_join (c : UInt8) (d : UInt8) (hd : c ≠ d) : ∀ ls : List (List UInt8), (∀ x ∈ ls, c ∉ x) → c ∉ Lib.join ls [d]
  | [], _ => by simp [Lib.join_nil]
  | x :: r, h => by
    rw [Lib.join_cons]
    intro m
    rcases List.mem_append.1 m with m | m
    · exact h x List.mem_cons_self m
    · unfold Lib.joinTail at m
      rw [List.mem_flatten] at m
      obtain ⟨y, hy, hm⟩ := m
      obtain ⟨z, hz, rfl⟩ := List.mem_map.1 hy
      rcases List.mem_append.1 hm with hm | hm
      · rw [List.mem_singleton] at hm; exact hd hm
      · exact h z (List.mem_cons_of_mem _ hz) hm
theorem term_clean (F : Fine T K V) (i j : Nat) (hi : i < T.length) (hj : j < (kk K i).length) : (44 : UInt8) ∉ bl (termB K V i j) ∧ (59 : UInt8) ∉ bl (termB K V i j) := by
  have h1 := (F.key i j hi hj).1
  have h2 := escB_clean ((kk V i).getD j ByteArray.empty)
  rw [bl_termB]
  refine ⟨fun m => ?_, fun m => ?_⟩
  · rcases List.mem_append.1 m with m | m
    · exact h1.1 m
    · rcases List.mem_cons.1 m with m | m
      · exact absurd m (by decide)
      · exact h2.1 m
  · rcases List.mem_append.1 m with m | m
    · exact h1.2.2.1 m
    · rcases List.mem_cons.1 m with m | m
      · exact absurd m (by decide)
      · exact h2.2.2.1 m
theorem term_size (F : Fine T K V) (i j : Nat) (hi : i < T.length) (hj : j < (kk K i).length) : (termB K V i j).size ≤ 951 := by
  have h1 := (F.key i j hi hj).2
  have h2 := escB_size _ (F.val i j hi hj)
  rw [← bl_len, bl_termB, List.length_append, List.length_cons, bl_len, bl_len]
  omega
theorem terms_mem {i : Nat} {x : ByteArray} (h : x ∈ terms K V i) : ∃ j, j < (kk K i).length ∧ x = termB K V i j := by
  obtain ⟨j, hj, rfl⟩ := List.mem_map.1 h
  exact ⟨j, List.mem_range.1 hj, rfl⟩
theorem terms_len (i : Nat) : (terms K V i).length = (kk K i).length := by simp [terms]
theorem terms_get (i j : Nat) (h : j < (terms K V i).length) : (terms K V i)[j] = termB K V i j := by simp [terms]
theorem inner_len (F : Fine T K V) (i : Nat) (hi : i < T.length) : (inner K V i).length ≤ 9520 := by
  have := len_join ((terms K V i).map bl) 44 951 (fun x hx => by
    obtain ⟨y, hy, rfl⟩ := List.mem_map.1 hx
    obtain ⟨j, hj, rfl⟩ := terms_mem hy
    rw [bl_len]; exact term_size F i j hi hj)
  rw [List.length_map, terms_len] at this
  have h1 := F.k1 i hi
  unfold inner
  omega
theorem bl_partB (i : Nat) : bl (partB T K V i) = bl (tt T i) ++ 58 :: inner K V i := by
  unfold partB
  rw [bl_append, bl_append, bl_mk, List.append_assoc]
  rfl
theorem part_size (F : Fine T K V) (i : Nat) (hi : i < T.length) : (partB T K V i).size ≤ 9571 := by
  have h1 := (F.t i hi).2
  have h2 := inner_len F i hi
  rw [← bl_len, bl_partB, List.length_append, List.length_cons, bl_len]
  omega
theorem part_clean (F : Fine T K V) (i : Nat) (hi : i < T.length) : (59 : UInt8) ∉ bl (partB T K V i) := by
  rw [bl_partB]
  intro m
  rcases List.mem_append.1 m with m | m
  · exact (F.t i hi).1.2.2.1 m
  · rcases List.mem_cons.1 m with m | m
    · exact absurd m (by decide)
    · refine not_join 59 44 (by decide) _ (fun x hx => ?_) m
      obtain ⟨y, hy, rfl⟩ := List.mem_map.1 hx
      obtain ⟨j, hj, rfl⟩ := terms_mem hy
      exact (term_clean F i j hi hj).2
theorem rdK (l : List (List ByteArray)) (i : Nat) : rd_L1 l (i : Int) = kk l i := rfl
theorem rdT (l : List ByteArray) (i : Nat) : rdOf ByteArray.empty l (i : Int) = l.getD i ByteArray.empty := rfl
theorem parts_len : (parts T K V).length = T.length := by simp [parts]
theorem parts_get (i : Nat) (h : i < (parts T K V).length) : (parts T K V).getD i ByteArray.empty = partB T K V i := by
  rw [parts_len] at h
  simp [parts, List.getD, h]
theorem whole_len (F : Fine T K V) : (Lib.join ((parts T K V).map bl) [59]).length ≤ 95720 := by
  have := len_join ((parts T K V).map bl) 59 9571 (fun x hx => by
    obtain ⟨y, hy, rfl⟩ := List.mem_map.1 hx
    obtain ⟨i, hi, rfl⟩ := List.mem_map.1 hy
    rw [bl_len]; exact part_size F i (List.mem_range.1 hi))
  rw [List.length_map, parts_len] at this
  have := F.n1
  omega

/-! ### Read back -/
theorem read_terms (F : Fine T K V) (i : Nat) (hi : i < T.length) (h4 : Ev (fun k => laws_FnAdAddress.l4 k T K V (parts T K V) ((parts T K V).length : Int) ((i + 1 : Nat) : Int)) true) : ∀ (d j : Nat), d = (kk K i).length - j → j ≤ (kk K i).length →
    Ev (fun k => laws_FnAdAddress.l5 k T K V (i : Int) (parts T K V) ((parts T K V).length : Int) (i : Int) (terms K V i) ((terms K V i).length : Int) (j : Int)) true
  | 0, j, hd, hj => by
    have := F.n1
    have hl := terms_len (K := K) (V := V) i
    refine Ev.step (fun k => ?_) h4
    simp only [laws_FnAdAddress.l5]
    rw [if_neg (by omega), upI i (by omega)]
  | d + 1, j, hd, hj => by
    have hjn : j < (kk K i).length := by omega
    have hl := terms_len (K := K) (V := V) i
    have hk1 := F.k1 i hi
    have hk2 := F.k2 i hi
    have hnk := F.nk
    have hnv := F.nv
    have hn1 := F.n1
    have ih := read_terms F i hi h4 d (j + 1) (by omega) (by omega)
    have hts := term_size F i j hi hjn
    have hcut := cut (termB K V i j) (by omega) 61 _ _ (bl_termB i j) (F.key i j hi hjn).1.2.2.2
    rw [mk_bl, mk_bl] at hcut
    have hun := unesc_ev _ (F.val i j hi hjn)
    have hrt : rdOf ByteArray.empty (terms K V i) (j : Int) = termB K V i j := by rw [rdS _ j (by omega), terms_get]
    obtain ⟨K1, a1⟩ := hcut
    obtain ⟨K2, a2⟩ := hun
    obtain ⟨K3, a3⟩ := ih
    refine ev_at ⟨K1 + K2 + K3, fun k hk => ?_⟩
    have b1 : spec_Cut.f k (termB K V i j) 61 = some ((kk K i).getD j ByteArray.empty, escB ((kk V i).getD j ByteArray.empty), true) := a1 k (by omega)
    have b2 : impl_AdUnescape.f k (escB ((kk V i).getD j ByteArray.empty)) = some ((kk V i).getD j ByteArray.empty, true) := a2 k (by omega)
    have b3 := a3 k (by omega)
    clear a1 a2 a3
    simp only [laws_FnAdAddress.l5]
    rw [if_pos (by omega), if_pos (by omega), if_pos (by omega), hrt, b1, Option.bind_some, b2, Option.bind_some, if_pos (show ((kk K i).getD j ByteArray.empty, escB ((kk V i).getD j ByteArray.empty), true).2.2 = true from rfl), if_pos (by omega), if_pos (by omega), rdK, rdK, rdT, rdT, if_pos (by omega), if_pos rfl,
      if_pos (show ((kk V i).getD j ByteArray.empty, true).2 = true from rfl), if_pos (by omega), if_pos (by omega), if_pos rfl, upI j (by omega)]
    exact b3
theorem terms_nil (i : Nat) : kk K i = [] ↔ terms K V i = [] := by
  rw [← List.length_eq_zero_iff, ← List.length_eq_zero_iff, terms_len]
theorem inner_nil (F : Fine T K V) (i : Nat) (hi : i < T.length) : inner K V i = [] ↔ terms K V i = [] := by
  constructor
  · intro h
    cases hq : terms K V i with
    | nil => rfl
    | cons x r =>
      exfalso
      unfold inner at h
      rw [hq, List.map_cons, Lib.join_cons] at h
      obtain ⟨j, _, rfl⟩ := terms_mem (K := K) (V := V) (i := i) (x := x) (by rw [hq]; exact List.mem_cons_self)
      rw [bl_termB] at h
      simp at h
  · intro h
    unfold inner
    rw [h]
    rfl
theorem read_parts (F : Fine T K V) : ∀ (d i : Nat), d = T.length - i → i ≤ T.length →
    Ev (fun k => laws_FnAdAddress.l4 k T K V (parts T K V) ((parts T K V).length : Int) (i : Int)) true
  | 0, i, hd, hi => by
    have hp := parts_len (T := T) (K := K) (V := V)
    have he := esc_ev (⟨#[61]⟩ : ByteArray) (by decide)
    rw [esc_eq] at he
    obtain ⟨K1, a1⟩ := he
    refine ev_at ⟨K1, fun k hk => ?_⟩
    have b1 : impl_AdEscape.f k (⟨#[61]⟩ : ByteArray) = some ⟨#[37, 51, 100]⟩ := a1 k hk
    simp only [laws_FnAdAddress.l4]
    rw [if_neg (by omega), b1, Option.bind_some, toList_bl]
    rfl
  | d + 1, i, hd, hi => by
    have hin : i < T.length := by omega
    have hp := parts_len (T := T) (K := K) (V := V)
    have hnk := F.nk
    have hnv := F.nv
    have hn1 := F.n1
    have hps := part_size F i hin
    have hil := inner_len F i hin
    have hcut := cut (partB T K V i) (by omega) 58 _ _ (bl_partB i) (F.t i hin).1.2.1
    rw [mk_bl] at hcut
    have ih := read_parts F d (i + 1) (by omega) (by omega)
    have h5 := read_terms F i hin ih (kk K i).length 0 (by omega) (by omega)
    have hrp : rdOf ByteArray.empty (parts T K V) (i : Int) = partB T K V i := by rw [rdT, parts_get i (by omega)]
    have h9 : Ev (fun k => laws_FnAdAddress.j9 k T K V (i : Int) (terms K V i) (parts T K V) ((parts T K V).length : Int) (i : Int)) true := by
      refine Ev.step (fun k => ?_) h5
      simp only [laws_FnAdAddress.j9]
      rw [if_pos (by omega), if_pos (by omega), rdK, if_pos (by rw [terms_len])]
      rfl
    have h8 : Ev (fun k => laws_FnAdAddress.j8 k T K V (i : Int) (mk (inner K V i)) (parts T K V) ((parts T K V).length : Int) (i : Int) false) true := by
      by_cases hz : inner K V i = []
      · have ht := (inner_nil F i hin).1 hz
        refine Ev.step (fun k => ?_) h9
        simp only [laws_FnAdAddress.j8]
        rw [if_neg (by decide), if_pos (by rw [toList_bl, bl_mk, hz]), ht]
      · have ht : terms K V i ≠ [] := fun e => hz ((inner_nil F i hin).2 e)
        have hsp := split (mk (inner K V i)) (by rw [mk_size]; omega) 44 (terms K V i) ht (by rw [bl_mk]; rfl) (fun x hx => by
          obtain ⟨j, hj, rfl⟩ := terms_mem hx
          exact (term_clean F i j hin hj).1)
        obtain ⟨K1, a1⟩ := hsp
        obtain ⟨K2, a2⟩ := h9
        refine ev_at ⟨K1 + K2, fun k hk => ?_⟩
        have b1 : spec_Split.f k (mk (inner K V i)) 44 = some (terms K V i) := a1 k (by omega)
        have b2 := a2 k (by omega)
        simp only [laws_FnAdAddress.j8]
        rw [if_neg (by decide), if_neg (by rw [toList_bl, bl_mk]; exact hz), b1, Option.bind_some]
        exact b2
    obtain ⟨K1, a1⟩ := hcut
    obtain ⟨K2, a2⟩ := h8
    refine ev_at ⟨K1 + K2, fun k hk => ?_⟩
    have b1 : spec_Cut.f k (partB T K V i) 58 = some (tt T i, mk (inner K V i), true) := a1 k (by omega)
    have b2 := a2 k (by omega)
    clear a1 a2
    simp only [laws_FnAdAddress.l4]
    rw [if_pos (by omega), if_pos (by omega), if_pos (by omega), hrp, b1, Option.bind_some, if_pos (show (tt T i, mk (inner K V i), true).2.2 = true from rfl), if_pos (by omega), rdT]
    rw [show ((tt T i).toList != (T.getD i ByteArray.empty).toList) = false by simp [tt]]
    exact b2

/-! ### Written -/
theorem write_terms (F : Fine T K V) (i : Nat) (hi : i < T.length) (acc : List ByteArray) (hacc : acc.length ≤ 1000)
    (h2 : Ev (fun k => laws_FnAdAddress.l2 k T K V (acc ++ [partB T K V i]) (T.length : Int) ((i + 1 : Nat) : Int)) true) : ∀ (d j : Nat), d = (kk K i).length - j → j ≤ (kk K i).length →
    Ev (fun k => laws_FnAdAddress.l3 k T K V acc (i : Int) ((List.range j).map (termB K V i)) (T.length : Int) (i : Int) ((kk K i).length : Int) (j : Int)) true
  | 0, j, hd, hj => by
    have e : j = (kk K i).length := by omega
    subst e
    have hn1 := F.n1
    have hil := inner_len F i hi
    have hts := (F.t i hi).2
    have hk1 := F.k1 i hi
    have hj := joined (terms K V i) (⟨#[44]⟩ : ByteArray) (by rw [terms_len]; omega) (by
      have : (Lib.join ((terms K V i).map bl) (bl (⟨#[44]⟩ : ByteArray))) = inner K V i := rfl
      rw [this]; omega)
    have he : mk (Lib.join ((terms K V i).map bl) (bl (⟨#[44]⟩ : ByteArray))) = mk (inner K V i) := rfl
    rw [he] at hj
    obtain ⟨K1, a1⟩ := hj
    obtain ⟨K2, a2⟩ := h2
    refine ev_at ⟨K1 + K2, fun k hk => ?_⟩
    have b1 : spec_Joined.f k ((List.range (kk K i).length).map (termB K V i)) (⟨#[44]⟩ : ByteArray) = some (mk (inner K V i)) := a1 k (by omega)
    have b2 := a2 k (by omega)
    clear a1 a2
    have s1 : (⟨#[58]⟩ : ByteArray).size = 1 := rfl
    have et : T.getD i ByteArray.empty = tt T i := rfl
    simp only [laws_FnAdAddress.l3]
    rw [if_neg (by omega), if_pos (by omega), if_pos (by omega), rdT, et, if_pos (by omega), b1, Option.bind_some, if_pos (by rw [ByteArray.size_append, s1, mk_size]; omega), if_pos (by omega), upI i (by omega)]
    exact b2
  | d + 1, j, hd, hj => by
    have hjn : j < (kk K i).length := by omega
    have hk1 := F.k1 i hi
    have hk2 := F.k2 i hi
    have hnk := F.nk
    have hnv := F.nv
    have hn1 := F.n1
    have hks := (F.key i j hi hjn).2
    have hvs := F.val i j hi hjn
    have hes := escB_size _ hvs
    have ih := write_terms F i hi acc hacc h2 d (j + 1) (by omega) (by omega)
    obtain ⟨K1, a1⟩ := esc_ev _ hvs
    obtain ⟨K2, a2⟩ := ih
    refine ev_at ⟨K1 + K2, fun k hk => ?_⟩
    have b1 : impl_AdEscape.f k ((kk V i).getD j ByteArray.empty) = some (escB ((kk V i).getD j ByteArray.empty)) := a1 k (by omega)
    have b2 := a2 k (by omega)
    clear a1 a2
    have s1 : (⟨#[61]⟩ : ByteArray).size = 1 := rfl
    rw [List.range_succ, List.map_append] at b2
    simp only [laws_FnAdAddress.l3]
    rw [if_pos (by omega), if_pos (by omega), if_pos (by omega), if_pos (by omega), rdK, rdK, if_pos (by omega), rdT, if_pos (by omega), if_pos (by omega), if_pos (by omega), rdT, b1, Option.bind_some, if_pos (by rw [ByteArray.size_append, s1]; omega), if_pos (by rw [List.length_map, List.length_range]; omega), upI j (by omega)]
    exact b2
theorem write_parts (F : Fine T K V) : ∀ (d i : Nat), d = T.length - i → i ≤ T.length →
    Ev (fun k => laws_FnAdAddress.l2 k T K V ((List.range i).map (partB T K V)) (T.length : Int) (i : Int)) true
  | 0, i, hd, hi => by
    have e : i = T.length := by omega
    subst e
    have hp := parts_len (T := T) (K := K) (V := V)
    have hn0 := F.n0
    have hn1 := F.n1
    have hwl := whole_len F
    have hj := joined (parts T K V) (⟨#[59]⟩ : ByteArray) (by omega) (by
      have : bl (⟨#[59]⟩ : ByteArray) = [59] := rfl
      rw [this]; omega)
    have hne : parts T K V ≠ [] := by
      intro e
      rw [e] at hp
      simp at hp
      omega
    have hsp := split (mk (Lib.join ((parts T K V).map bl) (bl (⟨#[59]⟩ : ByteArray)))) (by
      have : bl (⟨#[59]⟩ : ByteArray) = [59] := rfl
      rw [mk_size, this]; omega) 59 (parts T K V) hne (by rw [bl_mk]; rfl) (fun x hx => by
        obtain ⟨i, hi, rfl⟩ := List.mem_map.1 hx
        exact part_clean F i (List.mem_range.1 hi))
    have h4 := read_parts F T.length 0 (by omega) (by omega)
    obtain ⟨K1, a1⟩ := hj
    obtain ⟨K2, a2⟩ := hsp
    obtain ⟨K3, a3⟩ := h4
    refine ev_at ⟨K1 + K2 + K3, fun k hk => ?_⟩
    have b1 : spec_Joined.f k ((List.range T.length).map (partB T K V)) (⟨#[59]⟩ : ByteArray) = some (mk (Lib.join ((parts T K V).map bl) (bl (⟨#[59]⟩ : ByteArray)))) := a1 k (by omega)
    have b2 : spec_Split.f k (mk (Lib.join ((parts T K V).map bl) (bl (⟨#[59]⟩ : ByteArray)))) 59 = some (parts T K V) := a2 k (by omega)
    have b3 : laws_FnAdAddress.l4 k T K V (parts T K V) ((parts T K V).length : Int) 0 = some true := a3 k (by omega)
    clear a1 a2 a3
    simp only [laws_FnAdAddress.l2]
    rw [if_neg (by omega), b1, Option.bind_some, b2, Option.bind_some, if_pos (by omega), b3]
  | d + 1, i, hd, hi => by
    have hin : i < T.length := by omega
    have hnk := F.nk
    have hn1 := F.n1
    have ih := write_parts F d (i + 1) (by omega) (by omega)
    have e : (List.range (i + 1)).map (partB T K V) = (List.range i).map (partB T K V) ++ [partB T K V i] := by rw [List.range_succ, List.map_append]; rfl
    rw [e] at ih
    have h3 := write_terms F i hin _ (by rw [List.length_map, List.length_range]; omega) ih (kk K i).length 0 (by omega) (by omega)
    refine Ev.step (fun k => ?_) h3
    simp only [laws_FnAdAddress.l2]
    rw [if_pos (by omega), if_pos (by omega), if_pos (by omega), rdK]
    rfl

/-! ### Tested -/
/-- What the tests have let by so far. -/
structure Pre (T : List ByteArray) (K V : List (List ByteArray)) : Prop where
  n0 : 0 < T.length
  n1 : T.length ≤ 10
  nk : K.length = T.length
  nv : V.length = T.length
  st : ∀ x ∈ T, x.size ≤ 2147483647
  sk : ∀ y ∈ K, y.length ≤ 2147483647 ∧ ∀ x ∈ y, x.size ≤ 2147483647
  sv : ∀ y ∈ V, y.length ≤ 2147483647 ∧ ∀ x ∈ y, x.size ≤ 2147483647
structure Row (T : List ByteArray) (K V : List (List ByteArray)) (i : Nat) : Prop where
  t : Word (tt T i)
  k1 : (kk K i).length ≤ 10
  k2 : (kk K i).length = (kk V i).length
  key : ∀ j, j < (kk K i).length → Word ((kk K i).getD j ByteArray.empty)
  val : ∀ j, j < (kk K i).length → ((kk V i).getD j ByteArray.empty).size ≤ 300
theorem getD_mem {α : Type} (l : List α) (i : Nat) (d : α) (h : i < l.length) : l.getD i d ∈ l := by
  rw [List.getD_eq_getElem?_getD, List.getElem?_eq_getElem h]; exact List.getElem_mem h
theorem test_terms (P : Pre T K V) (i : Nat) (hi : i < T.length) (hk1 : (kk K i).length ≤ 10) (hk2 : (kk K i).length = (kk V i).length) (ht : Word (tt T i))
    (h0 : Row T K V i → Ev (fun k => laws_FnAdAddress.l0 k T K V (T.length : Int) ((i + 1 : Nat) : Int)) true) : ∀ (d j : Nat), d = (kk K i).length - j → j ≤ (kk K i).length →
    (∀ m, m < j → Word ((kk K i).getD m ByteArray.empty) ∧ ((kk V i).getD m ByteArray.empty).size ≤ 300) →
    Ev (fun k => laws_FnAdAddress.l1 k T K V (i : Int) (T.length : Int) (i : Int) ((kk K i).length : Int) (j : Int)) true
  | 0, j, hd, hj, hm => by
    have hn1 := P.n1
    have e : j = (kk K i).length := by omega
    subst e
    refine Ev.step (fun k => ?_) (h0 ⟨ht, hk1, hk2, fun m h => (hm m h).1, fun m h => (hm m h).2⟩)
    simp only [laws_FnAdAddress.l1]
    rw [if_neg (by omega), upI i (by omega)]
  | d + 1, j, hd, hj, hm => by
    have hjn : j < (kk K i).length := by omega
    have hnk := P.nk
    have hnv := P.nv
    have hn1 := P.n1
    have hsz : ((kk K i).getD j ByteArray.empty).size ≤ 2147483647 := (P.sk (kk K i) (getD_mem K i [] (by omega))).2 _ (getD_mem _ j _ hjn)
    obtain ⟨r, hr, hr2⟩ := word _ hsz
    cases r with
    | false =>
      obtain ⟨K1, a1⟩ := hr
      refine ev_at ⟨K1, fun k hk => ?_⟩
      have b1 : laws_adWord.f k ((kk K i).getD j ByteArray.empty) = some false := a1 k hk
      simp only [laws_FnAdAddress.l1]
      rw [if_pos (by omega), if_pos (by omega), if_pos (by omega), if_pos (by omega), rdK, if_pos (by omega), rdT, b1, Option.bind_some, if_neg (by decide)]
    | true =>
      by_cases hv : (((kk V i).getD j ByteArray.empty).size : Int) > 300
      · obtain ⟨K1, a1⟩ := hr
        refine ev_at ⟨K1, fun k hk => ?_⟩
        have b1 : laws_adWord.f k ((kk K i).getD j ByteArray.empty) = some true := a1 k hk
        simp only [laws_FnAdAddress.l1]
        rw [if_pos (by omega), if_pos (by omega), if_pos (by omega), if_pos (by omega), rdK, if_pos (by omega), rdT, b1, Option.bind_some, if_pos rfl, if_pos (by omega), rdK, if_pos (by omega), rdT, if_pos hv]
      · have ih := test_terms P i hi hk1 hk2 ht h0 d (j + 1) (by omega) (by omega) (fun m h => by
          rcases Nat.lt_or_ge m j with h6 | h6
          · exact hm m h6
          · have : m = j := by omega
            subst this; exact ⟨hr2 rfl, by omega⟩)
        obtain ⟨K1, a1⟩ := hr
        obtain ⟨K2, a2⟩ := ih
        refine ev_at ⟨K1 + K2, fun k hk => ?_⟩
        have b1 : laws_adWord.f k ((kk K i).getD j ByteArray.empty) = some true := a1 k (by omega)
        have b2 := a2 k (by omega)
        clear a1 a2
        simp only [laws_FnAdAddress.l1]
        rw [if_pos (by omega), if_pos (by omega), if_pos (by omega), if_pos (by omega), rdK, if_pos (by omega), rdT, b1, Option.bind_some, if_pos rfl, if_pos (by omega), rdK, if_pos (by omega), rdT, if_neg hv, upI j (by omega)]
        exact b2
theorem test_parts (P : Pre T K V) : ∀ (d i : Nat), d = T.length - i → i ≤ T.length → (∀ m, m < i → Row T K V m) → Ev (fun k => laws_FnAdAddress.l0 k T K V (T.length : Int) (i : Int)) true
  | 0, i, hd, hi, hm => by
    have e : i = T.length := by omega
    subst e
    have F : Fine T K V := ⟨P.n0, P.n1, P.nk, P.nv, fun m h => (hm m h).t, fun m h => (hm m h).k1, fun m h => (hm m h).k2, fun m j h hj => (hm m h).key j hj, fun m j h hj => (hm m h).val j hj⟩
    refine Ev.step (fun k => ?_) (write_parts F T.length 0 (by omega) (by omega))
    simp only [laws_FnAdAddress.l0]
    rw [if_neg (by omega)]
    rfl
  | d + 1, i, hd, hi, hm => by
    have hin : i < T.length := by omega
    have hnk := P.nk
    have hnv := P.nv
    have hn1 := P.n1
    have no : Ev (fun k => laws_FnAdAddress.j3 k T K V (i : Int) (T.length : Int) (i : Int) true) true := Ev.step (f := fun _ => some true) (fun k => by simp only [laws_FnAdAddress.j3]; rw [if_pos trivial]) (Ev.now _)
    obtain ⟨r, hr, hr2⟩ := word (tt T i) (P.st _ (getD_mem T i _ hin))
    have et : T.getD i ByteArray.empty = tt T i := rfl
    obtain ⟨K1, a1⟩ := hr
    obtain ⟨K0, a0⟩ := no
    cases r with
    | false =>
      refine ev_at ⟨K1 + K0, fun k hk => ?_⟩
      have b1 : laws_adWord.f k (tt T i) = some false := a1 k (by omega)
      have b0 : laws_FnAdAddress.j3 k T K V (i : Int) (T.length : Int) (i : Int) true = some true := a0 k (by omega)
      simp only [laws_FnAdAddress.l0]
      rw [if_pos (by omega), if_pos (by omega), if_pos (by omega), rdT, et, b1, Option.bind_some, if_neg (by decide), b0]
    | true =>
      by_cases h1 : ((kk K i).length : Int) > 10
      · refine ev_at ⟨K1 + K0, fun k hk => ?_⟩
        have b1 : laws_adWord.f k (tt T i) = some true := a1 k (by omega)
        have b0 : laws_FnAdAddress.j3 k T K V (i : Int) (T.length : Int) (i : Int) true = some true := a0 k (by omega)
        simp only [laws_FnAdAddress.l0]
        rw [if_pos (by omega), if_pos (by omega), if_pos (by omega), rdT, et, b1, Option.bind_some, if_pos rfl, if_pos (by omega), rdK, if_pos h1, b0]
      by_cases h2 : ((kk K i).length : Int) = ((kk V i).length : Int)
      · have ih := fun R : Row T K V i => test_parts P d (i + 1) (by omega) (by omega) (fun m h => by
          rcases Nat.lt_or_ge m i with h6 | h6
          · exact hm m h6
          · have : m = i := by omega
            subst this; exact R)
        obtain ⟨K2, a2⟩ := test_terms P i hin (by omega) (by omega) (hr2 rfl) ih (kk K i).length 0 (by omega) (by omega) (fun m h => by omega)
        refine ev_at ⟨K1 + K2 + 1, fun k hk => ?_⟩
        obtain ⟨m, rfl⟩ : ∃ m, k = m + 1 := ⟨k - 1, by omega⟩
        have b1 : laws_adWord.f (m + 1) (tt T i) = some true := a1 (m + 1) (by omega)
        have b2 : laws_FnAdAddress.l1 m T K V (i : Int) (T.length : Int) (i : Int) ((kk K i).length : Int) 0 = some true := a2 m (by omega)
        clear a1 a2
        have b3 : laws_FnAdAddress.j3 (m + 1) T K V (i : Int) (T.length : Int) (i : Int) false = some true := by
          simp only [laws_FnAdAddress.j3]
          rw [if_neg (by decide), if_pos (by omega), if_pos (by omega), rdK, b2]
        have e : (((kk K i).length : Int) != ((kk V i).length : Int)) = false := by rw [h2]; simp
        rw [laws_FnAdAddress.l0]
        rw [if_pos (by omega), if_pos (by omega), if_pos (by omega), rdT, et, b1, Option.bind_some, if_pos rfl, if_pos (by omega), rdK, if_neg h1, if_pos (by omega), rdK, e, b3]
      · refine ev_at ⟨K1 + K0, fun k hk => ?_⟩
        have b1 : laws_adWord.f k (tt T i) = some true := a1 k (by omega)
        have b0 : laws_FnAdAddress.j3 k T K V (i : Int) (T.length : Int) (i : Int) true = some true := a0 k (by omega)
        have e : (((kk K i).length : Int) != ((kk V i).length : Int)) = true := bne_iff_ne.2 h2
        simp only [laws_FnAdAddress.l0]
        rw [if_pos (by omega), if_pos (by omega), if_pos (by omega), rdT, et, b1, Option.bind_some, if_pos rfl, if_pos (by omega), rdK, if_neg h1, if_pos (by omega), rdK, e, b0]
theorem FnAdAddress (T : List ByteArray) (K V : List (List ByteArray)) : ∃ k, laws_FnAdAddress.f k T K V = some true := by
  suffices h : Ev (fun k => laws_FnAdAddress.f k T K V) true from h.rounds
  unfold laws_FnAdAddress.f
  have no : Ev (fun k => laws_FnAdAddress.j0 k T K V true) true := Ev.step (f := fun _ => some true) (fun k => by simp only [laws_FnAdAddress.j0]; rw [if_pos trivial]) (Ev.now _)
  have no1 : Ev (fun k => laws_FnAdAddress.j1 k T K V true) true := Ev.step (f := fun _ => some true) (fun k => by simp only [laws_FnAdAddress.j1]; rw [if_pos trivial]) (Ev.now _)
  obtain ⟨r1, h1, g1⟩ := fits5 T
  refine Ev.bind h1 ?_
  cases r1 with
  | false => exact Ev.congr (fun k => by rw [if_neg (by decide)]) no
  | true =>
    obtain ⟨r2, h2, g2⟩ := fits6 K
    refine Ev.congr (fun k => by rw [if_pos rfl]) (Ev.bind h2 ?_)
    cases r2 with
    | false => exact Ev.congr (fun k => by rw [if_neg (by decide)]) no
    | true =>
      obtain ⟨r3, h3, g3⟩ := fits6 V
      refine Ev.congr (fun k => by rw [if_pos rfl]) (Ev.bind h3 ?_)
      cases r3 with
      | false => exact no
      | true =>
        show Ev (fun k => laws_FnAdAddress.j0 k T K V false) true
        by_cases c1 : (T.length : Int) = 0
        · exact Ev.step (fun k => by simp only [laws_FnAdAddress.j0]; rw [if_neg (by decide), if_pos c1]) no1
        by_cases c2 : (T.length : Int) > 10
        · exact Ev.step (fun k => by simp only [laws_FnAdAddress.j0]; rw [if_neg (by decide), if_neg c1, if_pos c2]) no1
        by_cases c3 : (K.length : Int) = (T.length : Int)
        · by_cases c4 : (V.length : Int) = (T.length : Int)
          · have P : Pre T K V := ⟨by omega, by omega, by omega, by omega, (g1 rfl).2, (g2 rfl).2, (g3 rfl).2⟩
            refine Ev.step (fun k => ?_) (Ev.step (g := fun k => laws_FnAdAddress.j1 k T K V false) (fun k => ?_) (test_parts P T.length 0 (by omega) (by omega) (fun m h => by omega)))
            · simp only [laws_FnAdAddress.j0]
              rw [if_neg (by decide), if_neg c1, if_neg c2, if_pos c3, show ((V.length : Int) != (T.length : Int)) = false by rw [c4]; simp]
            · simp only [laws_FnAdAddress.j1]
              rw [if_neg (by decide)]
              rfl
          · exact Ev.step (fun k => by simp only [laws_FnAdAddress.j0]; rw [if_neg (by decide), if_neg c1, if_neg c2, if_pos c3, show ((V.length : Int) != (T.length : Int)) = true from bne_iff_ne.2 c4]) no1
        · exact Ev.step (fun k => by simp only [laws_FnAdAddress.j0]; rw [if_neg (by decide), if_neg c1, if_neg c2, if_neg c3]) no1

end Go.Proofs.Ytpgpkdickcdlpaa.Pure
