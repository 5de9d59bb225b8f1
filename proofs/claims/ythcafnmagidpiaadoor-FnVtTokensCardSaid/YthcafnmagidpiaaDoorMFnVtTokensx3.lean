-- Written by a program of this session (myprint.py, out of the translation). Not trusted: Lean checks it.
import Derived.Test.YthcafnmagidpiaaDoorMFnVtTokensx0
import Derived.Test.YthcafnmagidpiaaDoorMFnVtTokensx5
namespace Go.Proofs.YthcafnmagidpiaaDoor.MFnVtTokens
open Go.RowKit Go.Proofs.YthcafnmagidpiaaDoorW.PrintWords Go.Proofs.YthcafnmagidpiaaDoorW.PrintLast Go.Proofs.YthcafnmagidpiaaDoorW.PrintMore
attribute [local go_sem] max2_int min2_int max_two min_two max_three min_three max_four min_four   -- for this text's walks alone
set_option linter.unusedVariables false
set_option linter.unusedSimpArgs false

/-! ### spec_NumberText: function 15 -/
-- GIVENTEXT
def hd (v : ByteArray) : List UInt8 → Bool
  | [] => false
  | c :: _ => v.data.toList.contains c
def opt (v : ByteArray) (l : List UInt8) : Nat := if hd v l = true then 1 else 0
theorem opt_le (v : ByteArray) (l : List UInt8) : opt v l ≤ l.length := by
  unfold opt
  split
  · rename_i h
    cases l with
    | nil => cases h
    | cons c t => simp
  · exact Nat.zero_le _
theorem sz_of {a : ByteArray} {p : Nat} {c : UInt8} {t : List UInt8} (h : a.data.toList.drop p = c :: t) : p + 1 ≤ a.size := by
  have h2 := congrArg List.length h
  rw [List.length_drop, List.length_cons] at h2
  have h3 : a.data.toList.length = a.size := rfl
  omega
def D10 : ByteArray := ⟨#[48, 49, 50, 51, 52, 53, 54, 55, 56, 57]⟩
def D8 : ByteArray := ⟨#[48, 49, 50, 51, 52, 53, 54, 55]⟩
def D16 : ByteArray := ⟨#[48, 49, 50, 51, 52, 53, 54, 55, 56, 57, 97, 98, 99, 100, 101, 102, 65, 66, 67, 68, 69, 70]⟩
def PM : ByteArray := ⟨#[43, 45]⟩
def ZR : ByteArray := ⟨#[48]⟩
def XX : ByteArray := ⟨#[120]⟩
def DOT : ByteArray := ⟨#[46]⟩
def EE : ByteArray := ⟨#[101, 69]⟩
def span (v : ByteArray) : List UInt8 → Nat
  | [] => 0
  | c :: r => if v.data.toList.contains c = true then span v r + 1 else 0
theorem span_t {v : ByteArray} {l : List UInt8} (h : hd v l = true) : span v l = span v (l.drop 1) + 1 := by
  cases l with
  | nil => cases h
  | cons c r => simp only [span, hd] at h ⊢; rw [if_pos h]; rfl
theorem span_f {v : ByteArray} {l : List UInt8} (h : hd v l = false) : span v l = 0 := by
  cases l with
  | nil => rfl
  | cons c r => simp only [span, hd] at h ⊢; rw [if_neg (by rw [h]; simp)]
theorem span_le (v : ByteArray) : ∀ l : List UInt8, span v l ≤ l.length
  | [] => Nat.le_refl _
  | c :: r => by
    unfold span
    split
    · have := span_le v r; simp; omega
    · simp
theorem hd_sz {v : ByteArray} {a : ByteArray} {p : Nat} (h : hd v (a.data.toList.drop p) = true) : p + 1 ≤ a.size := by
  cases hc : a.data.toList.drop p with
  | nil => rw [hc] at h; cases h
  | cons c t => exact sz_of hc
theorem opt_sz {v : ByteArray} {a : ByteArray} {p : Nat} (h : p ≤ a.size) : p + opt v (a.data.toList.drop p) ≤ a.size := by
  have h1 := opt_le v (a.data.toList.drop p)
  rw [List.length_drop] at h1
  have h3 : a.data.toList.length = a.size := rfl
  omega


/-! ### spec.NumberText -/
def at1 (n : Nat) : List UInt8 → Bool
  | [] => false
  | c :: _ => c.toNat == n
def atL (n : Nat) : List UInt8 → Bool
  | [] => false
  | c :: _ => (c.toNat ||| 32) == n
def ntX (l : List UInt8) (sg m : Nat) : Int × Bool := (((sg + 2 + m : Nat) : Int), sg == 0 && (m == 1 || (decide (0 < m) && !at1 48 (l.drop (sg + 2)))))
def ntD (l : List UInt8) (sg m : Nat) : Int × Bool := (((sg + 2 + m : Nat) : Int), decide (0 < m) && !atL 101 (l.drop (sg + 2 + m)))
def ntO (l : List UInt8) (sg m : Nat) : Int × Bool := (((sg + 1 + m : Nat) : Int), (m == 0 || sg == 0) && (!atL 101 (l.drop (sg + 1 + m)) && !atL 120 (l.drop (sg + 1 + m))))
def ntE (l : List UInt8) (q : Nat) : Int × Bool :=
  if atL 101 (l.drop q) = true then (if span D10 (l.drop (q + 1 + opt PM (l.drop (q + 1)))) = 0 then (0, false) else (((q + 1 + opt PM (l.drop (q + 1)) + span D10 (l.drop (q + 1 + opt PM (l.drop (q + 1)))) : Nat) : Int), true))
  else ((q : Int), true)
/-- How long a number is, and whether it is one. -/
def ntF (l : List UInt8) : Int × Bool :=
  if at1 48 (l.drop (opt PM l)) = true then
    (if at1 120 (l.drop (opt PM l + 1)) = true then ntX l (opt PM l) (span D16 (l.drop (opt PM l + 2)))
    else if at1 46 (l.drop (opt PM l + 1)) = true then ntD l (opt PM l) (span D8 (l.drop (opt PM l + 2)))
    else ntO l (opt PM l) (span D8 (l.drop (opt PM l + 1))))
  else if span D10 (l.drop (opt PM l)) = 0 then (0, false)
  else if at1 46 (l.drop (opt PM l + span D10 (l.drop (opt PM l)))) = true then ntE l (opt PM l + span D10 (l.drop (opt PM l)) + 1 + span D10 (l.drop (opt PM l + span D10 (l.drop (opt PM l)) + 1)))
  else ntE l (opt PM l + span D10 (l.drop (opt PM l)))
/-- The number's place, behind the text, in blocks of its own. -/
def Nt (w0 w : World) (a : ByteArray) (k : Nat) : Prop := Below w0.heap.size w0 w ∧ w.heap[w0.heap.size]? = some (.cells #[.string a] 9 (0, 0)) ∧ w.heap[w0.heap.size + 1]? = some (.cells #[.int .i64 (k : Int)] 3 (0, 0))
theorem Nt.drewN {w0 w : World} {a : ByteArray} {k : Nat} (h : Nt w0 w a k) (n : Nat) : Nt w0 (w.drewN n) a k := ⟨pw_below_drewN h.1 n, h.2⟩
theorem Nt.drew {w0 w : World} {a : ByteArray} {k : Nat} (h : Nt w0 w a k) : Nt w0 w.drew a k := ⟨below_drew1 h.1, h.2⟩
theorem Nt.set {w0 w : World} {a : ByteArray} {k : Nat} (h : Nt w0 w a k) (x : Nat) : Nt w0 (w.setCell ⟨w0.heap.size + 1, 0, none⟩ (.int .i64 (x : Int))) a x := by
  obtain ⟨h1, h2, h3⟩ := h
  refine ⟨h1.setCell (Nat.le_succ _) _, ?_, ?_⟩
  · rw [Below.heap_setCell w _ _ _ (fun e => by have e' : w0.heap.size = w0.heap.size + 1 := e; omega)]; exact h2
  · exact heap_setCell_same w _ 0 _ 3 _ h3
theorem Nt.cA {w0 w : World} {a : ByteArray} {k : Nat} (h : Nt w0 w a k) : w.cell? ⟨w0.heap.size, 0, none⟩ = some (.string a) := (blk_cell h.2.1 0).trans rfl
theorem Nt.cB {w0 w : World} {a : ByteArray} {k : Nat} (h : Nt w0 w a k) : w.cell? ⟨w0.heap.size + 1, 0, none⟩ = some (.int .i64 (k : Int)) := (blk_cell h.2.2 0).trans rfl
theorem Nt.fB {w0 w : World} {a : ByteArray} {k : Nat} (h : Nt w0 w a k) : w.frozen? ⟨w0.heap.size + 1, 0, none⟩ = false := blk_frozen h.2.2 0
theorem nt_nil {a : ByteArray} {p : Nat} (h : a.data.toList.drop p = []) (hp : p ≤ a.size) : p = a.size := by
  have h2 := congrArg List.length h
  rw [List.length_drop] at h2
  have h3 : a.data.toList.length = a.size := rfl
  simp only [List.length_nil] at h2
  omega
theorem nt_cons {a : ByteArray} {p : Nat} {c : UInt8} {t : List UInt8} (h : a.data.toList.drop p = c :: t) : p < a.size ∧ ∀ h : p < a.size, ((a[p]'h).toNat : Int) = (c.toNat : Int) := by
  have h2 := congrArg List.length h
  rw [List.length_drop] at h2
  have h3 : a.data.toList.length = a.size := rfl
  simp only [List.length_cons] at h2
  have hp : p < a.size := by omega
  refine ⟨hp, fun _ => ?_⟩
  rw [List.drop_eq_getElem_cons (show p < a.data.toList.length from hp)] at h
  injection h with h4 _
  rw [← h4]
  rfl
theorem nt_lower (c : UInt8) : Go.bits .or .u8 (c.toNat : Int) 32 = ((c.toNat ||| 32 : Nat) : Int) := by
  have : ∀ n : Fin 256, Go.bits .or .u8 (n.val : Int) 32 = ((n.val ||| 32 : Nat) : Int) := by decide +kernel
  exact this ⟨c.toNat, c.toNat_lt⟩
theorem hx_fin : ∀ n : Fin 256, (spec_hexDigit.f 5 (n.val : Int)).map (·.2) = some (D16.data.toList.contains (UInt8.ofNat n.val)) := by decide +kernel
theorem hx_at (c : UInt8) : ∃ r, spec_hexDigit.f 5 (c.toNat : Int) = some (r, D16.data.toList.contains c) := by
  have h := hx_fin ⟨c.toNat, c.toNat_lt⟩
  obtain ⟨⟨r1, r2⟩, h1, h2⟩ := Option.map_eq_some_iff.1 h
  simp only [UInt8.ofNat_toNat] at h2
  exact ⟨r1, by rw [← h2]; exact h1⟩
theorem dg8_fin : ∀ n : Fin 256, D8.data.toList.contains (UInt8.ofNat n.val) = decide (48 ≤ n.val ∧ n.val ≤ 55) := by decide +kernel
theorem dg10_fin : ∀ n : Fin 256, D10.data.toList.contains (UInt8.ofNat n.val) = decide (48 ≤ n.val ∧ n.val ≤ 57) := by decide +kernel
theorem dg_in {v : ByteArray} {M : Int} (hv : (v = D8 ∧ M = 55) ∨ (v = D10 ∧ M = 57)) (c : UInt8) : v.data.toList.contains c = decide (48 ≤ c.toNat ∧ (c.toNat : Int) ≤ M) := by
  rcases hv with ⟨rfl, rfl⟩ | ⟨rfl, rfl⟩
  · have h := dg8_fin ⟨c.toNat, c.toNat_lt⟩
    simp only [UInt8.ofNat_toNat] at h
    rw [h]
    congr 1
    apply propext
    omega
  · have h := dg10_fin ⟨c.toNat, c.toNat_lt⟩
    simp only [UInt8.ofNat_toNat] at h
    rw [h]
    congr 1
    apply propext
    omega
theorem span_sz (v : ByteArray) (a : ByteArray) {p : Nat} (hp : p ≤ a.size) : p + span v (a.data.toList.drop p) ≤ a.size := by
  have h := span_le v (a.data.toList.drop p)
  rw [List.length_drop] at h
  have h3 : a.data.toList.length = a.size := rfl
  omega
set_option maxHeartbeats 2000000 in
set_option maxRecDepth 100000 in
theorem dig_calls (v : ByteArray) (M : Int) (hv : (v = D8 ∧ M = 55) ∨ (v = D10 ∧ M = 57)) (w0 w : World) (a : ByteArray) (k : Nat) (hx : Nt w0 w a k) (hk : k ≤ a.size) (hq : a.size ≤ 100000) :
    Calls Tryd.prog 26 #[.int .u8 M, .pointer (some ⟨w0.heap.size + 1, 0, none⟩), .pointer (some ⟨w0.heap.size, 0, none⟩)] w fun e w' => e = .returned (.int .i64 ((span v (a.data.toList.drop k) : Nat) : Int)) ∧ Nt w0 w' a (k + span v (a.data.toList.drop k)) := by
  have HX := Aside0.mk hx
  have HV := Aside0.mk (fun c => dg_in hv c)
  have c0 := hx.cB
  clear hv
  go_enter Tryd.func26, Tryd.ntmps26
  go_wp2
  go_loopg [] (a.size - k) (fun kq w' => ∃ p : Nat, k ≤ p ∧ p ≤ a.size ∧ Aside0 (kq = a.size - p ∧ Nt w0 w' a p ∧ span v (a.data.toList.drop k) = p - k + span v (a.data.toList.drop p)))
  case atStart => exact ⟨k, Nat.le_refl _, hk, ⟨rfl, HX.out, by omega⟩⟩
  case round => as_aux_lemma =>
    clear c0
    obtain ⟨p, hp1, hp2, HI⟩ := hrel
    have cA := HI.out.2.1.cA
    have cB := HI.out.2.1.cB
    have fB := HI.out.2.1.fB
    have hw1 : IntKind.i64.wrap ((p : Int) + 1) = ((p + 1 : Nat) : Int) := by rw [IntKind.wrap_i64]; omega
    have hw2 : IntKind.i64.wrap ((p : Int) - (k : Int)) = ((p - k : Nat) : Int) := by rw [IntKind.wrap_i64]; omega
    cases hl : a.data.toList.drop p with
    | nil =>
      have he := nt_nil hl hp2
      subst he
      have d1 : decide ((a.size : Int) < (a.size : Int)) = false := decide_eq_false (by omega)
      have d1n : decide (a.size < a.size) = false := decide_eq_false (by omega)
      have hs : span v (a.data.toList.drop k) = a.size - k := by rw [HI.out.2.2, hl]; rfl
      have HS := Aside0.mk hs
      clear hs hl
      go_wp2
      go_ret
      exact ⟨by rw [HS.out, show (((a.size - k : Nat) : Int)) = ((a.size : Nat) : Int) - (k : Int) by omega]; rfl, by rw [HS.out, show k + (a.size - k) = a.size by omega]; exact HI.out.2.1⟩
    | cons c t =>
      obtain ⟨hlt, hxx⟩ := nt_cons hl
      have d1 : decide ((p : Int) < (a.size : Int)) = true := decide_eq_true (by omega)
      have d1n : decide (p < a.size) = true := decide_eq_true hlt
      have j0 : (0 : Int) ≤ (p : Int) := by omega
      have j1 : (p : Int) < (a.size : Int) := by omega
      have HL := Aside0.mk hl
      have hT : a.data.toList.drop (p + 1) = t := by rw [← List.drop_drop, hl]; rfl
      have HT := Aside0.mk hT
      clear hl hT
      by_cases h1 : 48 ≤ c.toNat
      · have b1 : decide ((48 : Int) ≤ (c.toNat : Int)) = true := decide_eq_true (by omega)
        have b1n : decide (48 ≤ c.toNat) = true := decide_eq_true h1
        by_cases h2 : (c.toNat : Int) ≤ M
        · have b2 : decide ((c.toNat : Int) ≤ M) = true := decide_eq_true h2
          have hcc : v.data.toList.contains c = true := by rw [HV.out c]; exact decide_eq_true ⟨h1, h2⟩
          have HCC := Aside0.mk hcc
          clear hcc
          go_wp2
          go_roundg (a.size - (p + 1))
          case measure => have := HI.out.1; omega
          case rel =>
            refine ⟨p + 1, by omega, by omega, ⟨rfl, HI.out.2.1.set (p + 1), ?_⟩⟩
            rw [HI.out.2.2, HL.out, HT.out]
            simp only [span]
            rw [if_pos HCC.out]
            omega
        · have b2 : decide ((c.toNat : Int) ≤ M) = false := decide_eq_false h2
          have hcc : v.data.toList.contains c = false := by rw [HV.out c]; exact decide_eq_false (fun h => h2 h.2)
          have hs : span v (a.data.toList.drop k) = p - k := by
            rw [HI.out.2.2, HL.out]
            simp only [span]
            rw [if_neg (by rw [hcc]; simp)]
            omega
          have HS := Aside0.mk hs
          clear hs hcc
          go_wp2
          go_ret
          exact ⟨by rw [HS.out, show (((p - k : Nat) : Int)) = ((p : Nat) : Int) - (k : Int) by omega]; rfl, by rw [HS.out, show k + (p - k) = p by omega]; exact HI.out.2.1⟩
      · have b1 : decide ((48 : Int) ≤ (c.toNat : Int)) = false := decide_eq_false (by omega)
        have b1n : decide (48 ≤ c.toNat) = false := decide_eq_false h1
        have hcc : v.data.toList.contains c = false := by rw [HV.out c]; exact decide_eq_false (fun h => h1 h.1)
        have hs : span v (a.data.toList.drop k) = p - k := by
          rw [HI.out.2.2, HL.out]
          simp only [span]
          rw [if_neg (by rw [hcc]; simp)]
          omega
        have HS := Aside0.mk hs
        clear hs hcc
        go_wp2
        go_ret
        exact ⟨by rw [HS.out, show (((p - k : Nat) : Int)) = ((p : Nat) : Int) - (k : Int) by omega]; rfl, by rw [HS.out, show k + (p - k) = p by omega]; exact HI.out.2.1⟩


theorem nt_new (w : World) (a : ByteArray) : Nt w ((w.alloc (.cells #[.string a] 9)).alloc (.cells #[.int .i64 0] 3)) a 0 := by
  have h1 := heap_alloc_new w (.cells #[.string a] 9)
  have h2 := heap_alloc_new (w.alloc (.cells #[.string a] 9)) (.cells #[.int .i64 0] 3)
  have hs : (w.alloc (.cells #[.string a] 9)).heap.size = w.heap.size + 1 := by
    show (w.heap.push _).size = _
    simp
  refine ⟨below_alloc (below_alloc (Below.refl _ _) _) _, ?_, ?_⟩
  · exact ((below_alloc (Below.refl (w.alloc (.cells #[.string a] 9)).heap.size _) (.cells #[.int .i64 0] 3)).block w.heap.size (by omega)).trans h1
  · rw [hs] at h2; exact h2

theorem un_drew {B n : Nat} {w W : World} (h : Below B w (W.drewN n)) : Below B w W := ⟨h.os, h.tape, h.output, h.size, h.block⟩
theorem at_sz {f : List UInt8 → Bool} {a : ByteArray} {p : Nat} (h : f (a.data.toList.drop p) = true) (hf : f [] = false := by rfl) : p + 1 ≤ a.size := by
  cases hc : a.data.toList.drop p with
  | nil => rw [hc, hf] at h; cases h
  | cons c t => have := (nt_cons hc).1; omega
theorem low_ne (c : UInt8) (t : List UInt8) (n : Nat) : (!atL n (c :: t)) = (((c.toNat ||| 32 : Nat) : Int) != (n : Int)) := by
  show (!((c.toNat ||| 32) == n)) = !(((c.toNat ||| 32 : Nat) : Int) == (n : Int))
  congr 1
  rw [Bool.eq_iff_iff, beq_iff_eq, beq_iff_eq]
  omega
theorem pm_fin : ∀ n : Fin 256, PM.data.toList.contains (UInt8.ofNat n.val) = ((n.val : Int) == 43 || (n.val : Int) == 45) := by decide +kernel
theorem pm_hd {c : UInt8} (t : List UInt8) {b43 b45 : Bool} (h1 : ((c.toNat : Int) == 43) = b43) (h2 : ((c.toNat : Int) == 45) = b45) : hd PM (c :: t) = (b43 || b45) := by
  have h := pm_fin ⟨c.toNat, c.toNat_lt⟩
  simp only [UInt8.ofNat_toNat] at h
  rw [← h1, ← h2]
  exact h
set_option maxHeartbeats 8000000 in
set_option maxRecDepth 100000 in
theorem nt_calls (w : World) (a : ByteArray) (h0 : 0 < a.size) (hq : a.size ≤ 100000) :
    Calls Tryd.prog 15 #[.string a] w fun e w' => e = .returned (.tuple #[.int .i64 (ntF a.data.toList).1, .bool (ntF a.data.toList).2]) ∧ Below w.heap.size w w' := by
  have HD := Aside0.mk (fun v M hv W k (h : Nt w W a k) (hk : k ≤ a.size) => dig_calls v M hv w W a k h hk hq)
  obtain ⟨L, hL⟩ : ∃ L, a.data.toList = L := ⟨_, rfl⟩
  have hLL : ∀ n, L.drop n = a.data.toList.drop n := fun n => by rw [hL]
  rw [hL]
  have HLE := Aside0.mk hL
  cases hl : a.data.toList.drop 0 with
  | nil => exact absurd (nt_nil hl (by omega)) (by omega)
  | cons c0 t0 =>
    obtain ⟨_, hx0⟩ := nt_cons hl
    have i0 : (0 : Int) < (a.size : Int) := by omega
    obtain ⟨b43, h43⟩ : ∃ b, ((c0.toNat : Int) == 43) = b := ⟨_, rfl⟩
    obtain ⟨b45, h45⟩ : ∃ b, ((c0.toNat : Int) == 45) = b := ⟨_, rfl⟩
    have HPM : Aside0 (hd PM L = (b43 || b45)) := ⟨by rw [← HLE.out]; have h := pm_hd t0 h43 h45; rw [← hl] at h; exact h⟩
    clear hl hL
    go_enter Tryd.func15, Tryd.ntmps15
    go_upto_region 2 with (fail)
    (try clear hKR)
    go_cut [5] (fun v5 wc => ∃ b : Bool, v5 = .bool b ∧ Aside0 (hd PM L = b ∧ Nt w wc a 0))
    case first => as_aux_lemma =>
      rename_i KK hKK JJ KM hJJ hMM
      clear hKK
      cases b43 <;> cases b45 <;> (
        go_wp2
        (try clear hKR)
        go_meet
        case rel => exact ⟨_, rfl, ⟨HPM.out, by repeat (first | exact nt_new w a | apply Nt.drewN)⟩⟩)
    case rest => as_aux_lemma =>
      clear HPM h43 h45 hx0
      obtain ⟨b, rfl, HBS⟩ := hcut
      rename_i KR hKR
      go_upto_if 20 with (fail)
      (try clear hKR)
      go_cut [] (fun wc => ∃ sg : Nat, sg ≤ a.size ∧ sg ≤ 1 ∧ Aside0 (sg = opt PM L ∧ Nt w wc a sg))
      case first => as_aux_lemma =>
        rename_i KK hKK JJ KM hJJ hMM
        clear hKK
        have cB := HBS.out.2.cB
        have fB := HBS.out.2.fB
        cases b with
        | true =>
          go_wp2
          (try clear hKR)
          go_meet
          case rel => exact ⟨1, h0, Nat.le_refl _, ⟨by unfold opt; rw [if_pos HBS.out.1], by repeat (first | exact Nt.set HBS.out.2 1 | apply Nt.drewN)⟩⟩
        | false =>
          go_wp2
          (try clear hKR)
          go_meet
          case rel => exact ⟨0, Nat.zero_le _, Nat.zero_le _, ⟨by unfold opt; rw [if_neg (by rw [HBS.out.1]; simp)], by repeat (first | exact HBS.out.2 | apply Nt.drewN)⟩⟩
      case rest => as_aux_lemma =>
        obtain ⟨sg, hsg, hsg1, HS⟩ := hcut
        rename_i KR hKR
        go_upto_region 6 with (fail)
        (try clear hKR)
        go_cut [33] (fun vS wc => ∃ b : Bool, vS = .bool b ∧ Aside0 (at1 48 (a.data.toList.drop sg) = b ∧ Nt w wc a sg))
        case first => as_aux_lemma =>
          rename_i KK hKK JJ KM hJJ hMM
          clear hKK
          have cA := HS.out.2.cA
          have cB := HS.out.2.cB
          have fB := HS.out.2.fB
          obtain ⟨LD, hLD⟩ : ∃ LD, a.data.toList.drop sg = LD := ⟨_, rfl⟩
          have HLD := Aside0.mk hLD
          cases LD with
          | nil =>
            have hl := hLD
            have he := nt_nil hl (by omega)
            have d1 : decide ((sg : Int) < (a.size : Int)) = false := decide_eq_false (by omega)
            have d1n : decide (sg < a.size) = false := decide_eq_false (by omega)
            clear hl he hLD
            go_wp2
            (try clear hKR)
            go_meet
            case rel => exact ⟨_, rfl, ⟨by rw [HLD.out]; rfl, by repeat (first | exact HS.out.2 | apply Nt.drewN)⟩⟩
          | cons c t =>
            have hl := hLD
            obtain ⟨hlt, hxx⟩ := nt_cons hl
            have d1 : decide ((sg : Int) < (a.size : Int)) = true := decide_eq_true (by omega)
            have d1n : decide (sg < a.size) = true := decide_eq_true hlt
            have j0 : (0 : Int) ≤ (sg : Int) := by omega
            have j1 : (sg : Int) < (a.size : Int) := by omega
            skip
            obtain ⟨bb, hbb⟩ : ∃ b, ((c.toNat : Int) == 48) = b := ⟨_, rfl⟩
            have hbn : at1 48 (c :: t) = bb := by
              rw [← hbb]
              show _ = ((c.toNat : Int) == 48)
              rw [Bool.eq_iff_iff]
              simp only [at1, beq_iff_eq]
              omega
            have HBN := Aside0.mk hbn
            clear hl hbn hLD
            cases bb <;> (
              go_wp2
              (try clear hKR)
              go_meet
              case rel => exact ⟨_, rfl, ⟨by rw [HLD.out]; exact HBN.out, by repeat (first | exact HS.out.2 | apply Nt.drewN)⟩⟩)
        case rest => as_aux_lemma =>
          obtain ⟨b0, rfl, HT0⟩ := hcut
          rename_i KR hKR
          cases b0 with
          | true =>
            have hp1 : sg + 1 ≤ a.size := at_sz HT0.out.1
            obtain ⟨p1, hp1e⟩ : ∃ p1, sg + 1 = p1 := ⟨_, rfl⟩
            have hw1 : IntKind.i64.wrap ((sg : Int) + 1) = (p1 : Int) := by rw [IntKind.wrap_i64]; omega
            have cB := HT0.out.2.cB
            have fB := HT0.out.2.fB
            rw [hp1e] at hp1
            go_upto_region 8 with (fail)
            (try clear hKR)
            have HP1 := Aside0.mk (show Nt w _ a p1 from by repeat (first | exact Nt.set HT0.out.2 p1 | apply Nt.drewN))
            clear cB fB hw1
            go_cut [36] (fun vS wc => ∃ b : Bool, vS = .bool b ∧ Aside0 (at1 120 (a.data.toList.drop p1) = b ∧ Nt w wc a p1))
            case first => as_aux_lemma =>
              rename_i KK hKK JJ KM hJJ hMM
              clear hKK
              have cA := HP1.out.cA
              have cB := HP1.out.cB
              have fB := HP1.out.fB
              obtain ⟨LD, hLD⟩ : ∃ LD, a.data.toList.drop p1 = LD := ⟨_, rfl⟩
              have HLD := Aside0.mk hLD
              cases LD with
              | nil =>
                have hl := hLD
                have he := nt_nil hl (by omega)
                have d1 : decide ((p1 : Int) < (a.size : Int)) = false := decide_eq_false (by omega)
                have d1n : decide (p1 < a.size) = false := decide_eq_false (by omega)
                clear hl he hLD
                go_wp2
                (try clear hKR)
                go_meet
                case rel => exact ⟨_, rfl, ⟨by rw [HLD.out]; rfl, by repeat (first | exact HP1.out | apply Nt.drewN)⟩⟩
              | cons c t =>
                have hl := hLD
                obtain ⟨hlt, hxx⟩ := nt_cons hl
                have d1 : decide ((p1 : Int) < (a.size : Int)) = true := decide_eq_true (by omega)
                have d1n : decide (p1 < a.size) = true := decide_eq_true hlt
                have j0 : (0 : Int) ≤ (p1 : Int) := by omega
                have j1 : (p1 : Int) < (a.size : Int) := by omega
                skip
                obtain ⟨bb, hbb⟩ : ∃ b, ((c.toNat : Int) == 120) = b := ⟨_, rfl⟩
                have hbn : at1 120 (c :: t) = bb := by
                  rw [← hbb]
                  show _ = ((c.toNat : Int) == 120)
                  rw [Bool.eq_iff_iff]
                  simp only [at1, beq_iff_eq]
                  omega
                have HBN := Aside0.mk hbn
                clear hl hbn hLD
                cases bb <;> (
                  go_wp2
                  (try clear hKR)
                  go_meet
                  case rel => exact ⟨_, rfl, ⟨by rw [HLD.out]; exact HBN.out, by repeat (first | exact HP1.out | apply Nt.drewN)⟩⟩)
            case rest => as_aux_lemma =>
              clear HP1
              obtain ⟨bX, rfl, HTX⟩ := hcut
              rename_i KR hKR
              cases bX with
              | true =>
                as_aux_lemma =>
                  have hp2 : p1 + 1 ≤ a.size := at_sz HTX.out.1
                  obtain ⟨p2, hp2e⟩ : ∃ p2, p1 + 1 = p2 := ⟨_, rfl⟩
                  have hw1 : IntKind.i64.wrap ((p1 : Int) + 1) = (p2 : Int) := by rw [IntKind.wrap_i64]; omega
                  have cB := HTX.out.2.cB
                  have fB := HTX.out.2.fB
                  rw [hp2e] at hp2
                  have hFX : ntF L = ntX L sg (span D16 (a.data.toList.drop p2)) := by
                    unfold ntF
                    rw [← HS.out.1, hLL, if_pos HT0.out.1, hLL, hp1e, if_pos HTX.out.1, hLL, show sg + 2 = p2 by omega]
                  have HFX := Aside0.mk hFX
                  clear hFX
                  go_wp2
                  (try clear hKR)
                  have HP2 := Aside0.mk (show Nt w _ a p2 from by repeat (first | exact Nt.set HTX.out.2 p2 | apply Nt.drewN))
                  clear cB fB hw1
                  go_loopg [] (a.size - p2) (fun kq w' => ∃ p : Nat, p2 ≤ p ∧ p ≤ a.size ∧ Aside0 (kq = a.size - p ∧ Nt w w' a p ∧ span D16 (a.data.toList.drop p2) = p - p2 + span D16 (a.data.toList.drop p)))
                  case atStart => exact ⟨p2, Nat.le_refl _, hp2, ⟨rfl, HP2.out, by omega⟩⟩
                  case round => as_aux_lemma =>
                    clear HP2
                    obtain ⟨p, hpa, hpb, HI⟩ := hrel
                    have cA := HI.out.2.1.cA
                    have cB := HI.out.2.1.cB
                    have fB := HI.out.2.1.fB
                    have hw1 : IntKind.i64.wrap ((p : Int) + 1) = ((p + 1 : Nat) : Int) := by rw [IntKind.wrap_i64]; omega
                    cases hl : a.data.toList.drop p with
                    | nil =>
                      have he := nt_nil hl hpb
                      have d1 : decide ((p : Int) < (a.size : Int)) = false := decide_eq_false (by omega)
                      have d1n : decide (p < a.size) = false := decide_eq_false (by omega)
                      have hs : span D16 (a.data.toList.drop p2) = p - p2 := by rw [HI.out.2.2, hl]; rfl
                      have HSP := Aside0.mk hs
                      have HNT := Aside0.mk HI.out.2.1
                      clear hs hl he
                      go_upto_region 15 with (fail)
                      (try clear hKR)
                      clear d1 d1n
                      have hF1 : ntF L = (((p : Nat) : Int), sg == 0 && (p - p2 == 1 || (decide (0 < p - p2) && !at1 48 (a.data.toList.drop p2)))) := by
                        rw [HFX.out, HSP.out]
                        unfold ntX
                        rw [hLL, show sg + 2 = p2 by omega, show p2 + (p - p2) = p by omega]
                      have HF1 := Aside0.mk hF1
                      clear hF1
                      have hwB : IntKind.i64.wrap ((p2 : Int) + 1) = (p2 : Int) + 1 := by rw [IntKind.wrap_i64]; omega
                      have j2 : (0 : Int) ≤ (p2 : Int) := by omega
                      obtain ⟨bQ, hbQ⟩ : ∃ b, ((p : Int) == (p2 : Int) + 1) = b := ⟨_, rfl⟩
                      have hbQ2 : (p - p2 == 1) = bQ := by
                        rw [← hbQ, Bool.eq_iff_iff, beq_iff_eq, beq_iff_eq]
                        omega
                      rw [hbQ2] at HF1
                      have hsgb : (sg == 0) = !b := by
                        have h1 := HS.out.1
                        unfold opt at h1
                        cases b with
                        | true => rw [if_pos HBS.out.1] at h1; subst h1; rfl
                        | false => rw [if_neg (by rw [HBS.out.1]; simp)] at h1; subst h1; rfl
                      rw [hsgb] at HF1
                      by_cases hgt : p2 < p
                      · have d2 : decide ((p2 : Int) < (p : Int)) = true := decide_eq_true (by omega)
                        have d2n : decide (p2 < p) = true := decide_eq_true hgt
                        have d3 : decide (0 < p - p2) = true := decide_eq_true (by omega)
                        have j3 : (p2 : Int) < (a.size : Int) := by omega
                        rw [d3] at HF1
                        cases hl2 : a.data.toList.drop p2 with
                        | nil => exact absurd (nt_nil hl2 hp2) (by omega)
                        | cons c2 t2 =>
                          obtain ⟨hlt2, hxx2⟩ := nt_cons hl2
                          obtain ⟨bz, hbz⟩ : ∃ b, ((c2.toNat : Int) != 48) = b := ⟨_, rfl⟩
                          have hbz2 : (!at1 48 (a.data.toList.drop p2)) = bz := by
                            rw [hl2, ← hbz]
                            show (!(c2.toNat == 48)) = !((c2.toNat : Int) == 48)
                            congr 1
                            rw [Bool.eq_iff_iff, beq_iff_eq, beq_iff_eq]
                            omega
                          rw [hbz2] at HF1
                          clear hl2 hbz2 hsgb hbQ2
                          cases b <;> cases bQ <;> cases bz <;> (
                            go_quiet (fail)
                            go_wp2
                            (try clear hKR)
                            go_ret2
                            exact ⟨by rw [HF1.out]; rfl, by repeat (first | assumption | exact (‹_ ∧ _ ∧ Below _ _ _›).2.2 | exact HNT.out.1 | exact un_drew HNT.out.1 | apply pw_below_drewN)⟩)
                      · have hpp : p = p2 := by omega
                        subst hpp
                        have d2 : decide ((p : Int) < (p : Int)) = false := decide_eq_false (by omega)
                        have d2n : decide (p < p) = false := decide_eq_false (by omega)
                        have d3 : decide (0 < p - p) = false := decide_eq_false (by omega)
                        rw [d3] at HF1
                        clear hsgb hbQ2
                        cases b <;> cases bQ <;> (
                          go_quiet (fail)
                          go_wp2
                          (try clear hKR)
                          go_ret2
                          exact ⟨by rw [HF1.out]; rfl, by repeat (first | assumption | exact (‹_ ∧ _ ∧ Below _ _ _›).2.2 | exact HNT.out.1 | exact un_drew HNT.out.1 | apply pw_below_drewN)⟩)
                    | cons c t =>
                      obtain ⟨hlt, hxx⟩ := nt_cons hl
                      have d1 : decide ((p : Int) < (a.size : Int)) = true := decide_eq_true (by omega)
                      have d1n : decide (p < a.size) = true := decide_eq_true hlt
                      have j0 : (0 : Int) ≤ (p : Int) := by omega
                      have j1 : (p : Int) < (a.size : Int) := by omega
                      obtain ⟨rH, hrH⟩ := hx_at c
                      have HL := Aside0.mk hl
                      have hT : a.data.toList.drop (p + 1) = t := by rw [← List.drop_drop, hl]; rfl
                      have HTT := Aside0.mk hT
                      clear hl hT
                      obtain ⟨bH, hbH⟩ : ∃ b, D16.data.toList.contains c = b := ⟨_, rfl⟩
                      rw [hbH] at hrH
                      have HRH := Aside0.mk hrH
                      have HBH := Aside0.mk hbH
                      clear hrH hbH
                      cases bH with
                      | true =>
                        go_wp2_with (go_at_call 27; refine (spec_hexDigit.calls 5 (c.toNat : Int) rH true _ HRH.out).mono ?_; rintro e w8 ⟨rfl, ⟨m8, rfl⟩⟩)
                        (try clear hKR)
                        go_roundg (a.size - (p + 1))
                        case measure => have := HI.out.1; omega
                        case rel =>
                          refine ⟨p + 1, by omega, by omega, ⟨rfl, by repeat (first | exact Nt.set HI.out.2.1 (p + 1) | exact Nt.set (Nt.drewN HI.out.2.1 _) (p + 1) | apply Nt.drewN), ?_⟩⟩
                          rw [HI.out.2.2, HL.out, HTT.out]
                          simp only [span]
                          rw [if_pos HBH.out]
                          omega
                      | false =>
                        have hs : span D16 (a.data.toList.drop p2) = p - p2 := by
                          rw [HI.out.2.2, HL.out]
                          simp only [span]
                          rw [if_neg (by rw [HBH.out]; simp)]
                          omega
                        have HSP := Aside0.mk hs
                        clear hs
                        go_upto_region 15 with (go_at_call 27; refine (spec_hexDigit.calls 5 (c.toNat : Int) rH false _ HRH.out).mono ?_; rintro e w8 ⟨rfl, ⟨m8, rfl⟩⟩)
                        (try clear hKR)
                        have HNT := Aside0.mk (Nt.drewN HI.out.2.1 m8)
                        clear d1 d1n j0 j1 hlt hxx
                        have hF1 : ntF L = (((p : Nat) : Int), sg == 0 && (p - p2 == 1 || (decide (0 < p - p2) && !at1 48 (a.data.toList.drop p2)))) := by
                          rw [HFX.out, HSP.out]
                          unfold ntX
                          rw [hLL, show sg + 2 = p2 by omega, show p2 + (p - p2) = p by omega]
                        have HF1 := Aside0.mk hF1
                        clear hF1
                        have hwB : IntKind.i64.wrap ((p2 : Int) + 1) = (p2 : Int) + 1 := by rw [IntKind.wrap_i64]; omega
                        have j2 : (0 : Int) ≤ (p2 : Int) := by omega
                        obtain ⟨bQ, hbQ⟩ : ∃ b, ((p : Int) == (p2 : Int) + 1) = b := ⟨_, rfl⟩
                        have hbQ2 : (p - p2 == 1) = bQ := by
                          rw [← hbQ, Bool.eq_iff_iff, beq_iff_eq, beq_iff_eq]
                          omega
                        rw [hbQ2] at HF1
                        have hsgb : (sg == 0) = !b := by
                          have h1 := HS.out.1
                          unfold opt at h1
                          cases b with
                          | true => rw [if_pos HBS.out.1] at h1; subst h1; rfl
                          | false => rw [if_neg (by rw [HBS.out.1]; simp)] at h1; subst h1; rfl
                        rw [hsgb] at HF1
                        by_cases hgt : p2 < p
                        · have d2 : decide ((p2 : Int) < (p : Int)) = true := decide_eq_true (by omega)
                          have d2n : decide (p2 < p) = true := decide_eq_true hgt
                          have d3 : decide (0 < p - p2) = true := decide_eq_true (by omega)
                          have j3 : (p2 : Int) < (a.size : Int) := by omega
                          rw [d3] at HF1
                          cases hl2 : a.data.toList.drop p2 with
                          | nil => exact absurd (nt_nil hl2 hp2) (by omega)
                          | cons c2 t2 =>
                            obtain ⟨hlt2, hxx2⟩ := nt_cons hl2
                            obtain ⟨bz, hbz⟩ : ∃ b, ((c2.toNat : Int) != 48) = b := ⟨_, rfl⟩
                            have hbz2 : (!at1 48 (a.data.toList.drop p2)) = bz := by
                              rw [hl2, ← hbz]
                              show (!(c2.toNat == 48)) = !((c2.toNat : Int) == 48)
                              congr 1
                              rw [Bool.eq_iff_iff, beq_iff_eq, beq_iff_eq]
                              omega
                            rw [hbz2] at HF1
                            clear hl2 hbz2 hsgb hbQ2
                            cases b <;> cases bQ <;> cases bz <;> (
                              go_quiet (fail)
                              go_wp2
                              (try clear hKR)
                              go_ret2
                              exact ⟨by rw [HF1.out]; rfl, by repeat (first | assumption | exact (‹_ ∧ _ ∧ Below _ _ _›).2.2 | exact HNT.out.1 | exact un_drew HNT.out.1 | apply pw_below_drewN)⟩)
                        · have hpp : p = p2 := by omega
                          subst hpp
                          have d2 : decide ((p : Int) < (p : Int)) = false := decide_eq_false (by omega)
                          have d2n : decide (p < p) = false := decide_eq_false (by omega)
                          have d3 : decide (0 < p - p) = false := decide_eq_false (by omega)
                          rw [d3] at HF1
                          clear hsgb hbQ2
                          cases b <;> cases bQ <;> (
                            go_quiet (fail)
                            go_wp2
                            (try clear hKR)
                            go_ret2
                            exact ⟨by rw [HF1.out]; rfl, by repeat (first | assumption | exact (‹_ ∧ _ ∧ Below _ _ _›).2.2 | exact HNT.out.1 | exact un_drew HNT.out.1 | apply pw_below_drewN)⟩)
              | false =>
                go_upto_region 16 with (fail)
                (try clear hKR)
                go_cut [85] (fun vS wc => ∃ b : Bool, vS = .bool b ∧ Aside0 (at1 46 (a.data.toList.drop p1) = b ∧ Nt w wc a p1))
                case first => as_aux_lemma =>
                  rename_i KK hKK JJ KM hJJ hMM
                  clear hKK
                  have cA := HTX.out.2.cA
                  have cB := HTX.out.2.cB
                  have fB := HTX.out.2.fB
                  obtain ⟨LD, hLD⟩ : ∃ LD, a.data.toList.drop p1 = LD := ⟨_, rfl⟩
                  have HLD := Aside0.mk hLD
                  cases LD with
                  | nil =>
                    have hl := hLD
                    have he := nt_nil hl (by omega)
                    have d1 : decide ((p1 : Int) < (a.size : Int)) = false := decide_eq_false (by omega)
                    have d1n : decide (p1 < a.size) = false := decide_eq_false (by omega)
                    clear hl he hLD
                    go_wp2
                    (try clear hKR)
                    go_meet
                    case rel => exact ⟨_, rfl, ⟨by rw [HLD.out]; rfl, by repeat (first | exact HTX.out.2 | apply Nt.drewN)⟩⟩
                  | cons c t =>
                    have hl := hLD
                    obtain ⟨hlt, hxx⟩ := nt_cons hl
                    have d1 : decide ((p1 : Int) < (a.size : Int)) = true := decide_eq_true (by omega)
                    have d1n : decide (p1 < a.size) = true := decide_eq_true hlt
                    have j0 : (0 : Int) ≤ (p1 : Int) := by omega
                    have j1 : (p1 : Int) < (a.size : Int) := by omega
                    skip
                    obtain ⟨bb, hbb⟩ : ∃ b, ((c.toNat : Int) == 46) = b := ⟨_, rfl⟩
                    have hbn : at1 46 (c :: t) = bb := by
                      rw [← hbb]
                      show _ = ((c.toNat : Int) == 46)
                      rw [Bool.eq_iff_iff]
                      simp only [at1, beq_iff_eq]
                      omega
                    have HBN := Aside0.mk hbn
                    clear hl hbn hLD
                    cases bb <;> (
                      go_wp2
                      (try clear hKR)
                      go_meet
                      case rel => exact ⟨_, rfl, ⟨by rw [HLD.out]; exact HBN.out, by repeat (first | exact HTX.out.2 | apply Nt.drewN)⟩⟩)
                case rest => as_aux_lemma =>
                  obtain ⟨bP, rfl, HTP⟩ := hcut
                  rename_i KR hKR
                  cases bP with
                  | true =>
                    as_aux_lemma =>
                      have hp2 : p1 + 1 ≤ a.size := at_sz HTP.out.1
                      obtain ⟨p2, hp2e⟩ : ∃ p2, p1 + 1 = p2 := ⟨_, rfl⟩
                      have hw1 : IntKind.i64.wrap ((p1 : Int) + 1) = (p2 : Int) := by rw [IntKind.wrap_i64]; omega
                      have cB := HTP.out.2.cB
                      have fB := HTP.out.2.fB
                      rw [hp2e] at hp2
                      obtain ⟨m, hm⟩ : ∃ m, span D8 (a.data.toList.drop p2) = m := ⟨_, rfl⟩
                      have hsm : p2 + m ≤ a.size := by rw [← hm]; exact span_sz D8 a hp2
                      obtain ⟨p, hpe⟩ : ∃ p, p2 + m = p := ⟨_, rfl⟩
                      have hF1 : ntF L = (((p : Nat) : Int), decide (0 < m) && !atL 101 (a.data.toList.drop p)) := by
                        unfold ntF
                        rw [← HS.out.1, hLL, if_pos HT0.out.1, hLL, hp1e, if_neg (by rw [HTX.out.1]; simp), if_pos HTP.out.1, hLL, show sg + 2 = p2 by omega, hm]
                        unfold ntD
                        rw [hLL, show sg + 2 + m = p by omega]
                      have HF1 := Aside0.mk hF1
                      have HDD2 := Aside0.mk (fun W (h : Nt w W a p2) => HD.out D8 55 (.inl ⟨rfl, rfl⟩) W p2 h hp2)
                      rw [hm, hpe] at HDD2
                      rw [hpe] at hsm
                      clear hm hF1
                      go_upto_region 19 with (go_at_call 26; refine (HDD2.out _ (by repeat (first | exact Nt.set HTP.out.2 p2 | apply Nt.drewN))).mono ?_; rintro e wd ⟨rfl, hxd⟩; have HX8 := Aside0.mk hxd; clear hxd)
                      (try clear hKR)
                      clear cB fB hw1
                      have cA := HX8.out.cA
                      have cB := HX8.out.cB
                      obtain ⟨bM, hbM⟩ : ∃ b, decide ((0 : Int) < (m : Int)) = b := ⟨_, rfl⟩
                      have hbM2 : decide (0 < m) = bM := by rw [← hbM, decide_eq_decide]; omega
                      rw [hbM2] at HF1
                      cases hl : a.data.toList.drop p with
                      | nil =>
                        have he := nt_nil hl hsm
                        have d1 : ((p : Int) == (a.size : Int)) = true := beq_iff_eq.2 (by omega)
                        have d1n : (p == a.size) = true := beq_iff_eq.2 he
                        rw [hl] at HF1
                        clear hl he
                        cases bM <;> (
                          go_quiet (fail)
                          go_wp2
                          (try clear hKR)
                          go_ret2
                          exact ⟨by rw [HF1.out]; rfl, by repeat (first | assumption | exact (‹_ ∧ _ ∧ Below _ _ _›).2.2 | exact HX8.out.1 | exact un_drew HX8.out.1 | apply pw_below_drewN)⟩)
                      | cons c t =>
                        obtain ⟨hlt, hxx⟩ := nt_cons hl
                        have d1 : decide ((p : Int) < (a.size : Int)) = true := decide_eq_true (by omega)
                        have d1n : decide (p < a.size) = true := decide_eq_true hlt
                        have j0 : (0 : Int) ≤ (p : Int) := by omega
                        have j1 : (p : Int) < (a.size : Int) := by omega
                        have hlo := nt_lower c
                        have d2 : ((p : Int) == (a.size : Int)) = false := beq_eq_false_iff_ne.2 (by omega)
                        have d2n : (p == a.size) = false := beq_eq_false_iff_ne.2 (by omega)
                        obtain ⟨bz, hbz⟩ : ∃ b, (((c.toNat ||| 32 : Nat) : Int) != 101) = b := ⟨_, rfl⟩
                        have hbz2 : (!atL 101 (a.data.toList.drop p)) = bz := by rw [hl, ← hbz]; exact low_ne c t 101
                        rw [hbz2] at HF1
                        clear hl hbz2
                        cases bM <;> cases bz <;> (
                          go_quiet (fail)
                          go_wp2
                          (try clear hKR)
                          go_ret2
                          exact ⟨by rw [HF1.out]; rfl, by repeat (first | assumption | exact (‹_ ∧ _ ∧ Below _ _ _›).2.2 | exact HX8.out.1 | exact un_drew HX8.out.1 | apply pw_below_drewN)⟩)
                  | false =>
                    as_aux_lemma =>
                      obtain ⟨m, hm⟩ : ∃ m, span D8 (a.data.toList.drop p1) = m := ⟨_, rfl⟩
                      have hsm : p1 + m ≤ a.size := by rw [← hm]; exact span_sz D8 a hp1
                      obtain ⟨p, hpe⟩ : ∃ p, p1 + m = p := ⟨_, rfl⟩
                      have hF1 : ntF L = (((p : Nat) : Int), (m == 0 || sg == 0) && (!atL 101 (a.data.toList.drop p) && !atL 120 (a.data.toList.drop p))) := by
                        unfold ntF
                        rw [← HS.out.1, hLL, if_pos HT0.out.1, hLL, hp1e, if_neg (by rw [HTX.out.1]; simp), if_neg (by rw [HTP.out.1]; simp), hm]
                        unfold ntO
                        rw [hLL, show sg + 1 + m = p by omega]
                      have HF1 := Aside0.mk hF1
                      have HDD2 := Aside0.mk (fun W (h : Nt w W a p1) => HD.out D8 55 (.inl ⟨rfl, rfl⟩) W p1 h hp1)
                      rw [hm, hpe] at HDD2
                      rw [hpe] at hsm
                      clear hm hF1
                      go_upto_region 21 with (go_at_call 26; refine (HDD2.out _ (by repeat (first | exact HTP.out.2 | apply Nt.drewN))).mono ?_; rintro e wd ⟨rfl, hxd⟩; have HX8 := Aside0.mk hxd; clear hxd)
                      (try clear hKR)
                      have cA := HX8.out.cA
                      have cB := HX8.out.cB
                      obtain ⟨bM, hbM⟩ : ∃ b, ((m : Int) == 0) = b := ⟨_, rfl⟩
                      have hbM2 : (m == 0) = bM := by rw [← hbM, Bool.eq_iff_iff, beq_iff_eq, beq_iff_eq]; omega
                      rw [hbM2] at HF1
                      have hsgb : (sg == 0) = !b := by
                        have h1 := HS.out.1
                        unfold opt at h1
                        cases b with
                        | true => rw [if_pos HBS.out.1] at h1; subst h1; rfl
                        | false => rw [if_neg (by rw [HBS.out.1]; simp)] at h1; subst h1; rfl
                      rw [hsgb] at HF1
                      cases hl : a.data.toList.drop p with
                      | nil =>
                        have he := nt_nil hl hsm
                        have d1 : ((p : Int) == (a.size : Int)) = true := beq_iff_eq.2 (by omega)
                        have d1n : (p == a.size) = true := beq_iff_eq.2 he
                        rw [hl] at HF1
                        clear hl he hsgb
                        cases bM <;> cases b <;> (
                          go_quiet (fail)
                          go_wp2
                          (try clear hKR)
                          go_ret2
                          exact ⟨by rw [HF1.out]; rfl, by repeat (first | assumption | exact (‹_ ∧ _ ∧ Below _ _ _›).2.2 | exact HX8.out.1 | exact un_drew HX8.out.1 | apply pw_below_drewN)⟩)
                      | cons c t =>
                        obtain ⟨hlt, hxx⟩ := nt_cons hl
                        have d1 : decide ((p : Int) < (a.size : Int)) = true := decide_eq_true (by omega)
                        have d1n : decide (p < a.size) = true := decide_eq_true hlt
                        have j0 : (0 : Int) ≤ (p : Int) := by omega
                        have j1 : (p : Int) < (a.size : Int) := by omega
                        have hlo := nt_lower c
                        have d2 : ((p : Int) == (a.size : Int)) = false := beq_eq_false_iff_ne.2 (by omega)
                        have d2n : (p == a.size) = false := beq_eq_false_iff_ne.2 (by omega)
                        obtain ⟨bz, hbz⟩ : ∃ b, (((c.toNat ||| 32 : Nat) : Int) != 101) = b := ⟨_, rfl⟩
                        have hbz2 : (!atL 101 (a.data.toList.drop p)) = bz := by rw [hl, ← hbz]; exact low_ne c t 101
                        obtain ⟨by_, hby⟩ : ∃ b, (((c.toNat ||| 32 : Nat) : Int) != 120) = b := ⟨_, rfl⟩
                        have hby2 : (!atL 120 (a.data.toList.drop p)) = by_ := by rw [hl, ← hby]; exact low_ne c t 120
                        rw [hbz2, hby2] at HF1
                        clear hl hbz2 hby2 hsgb
                        cases bM <;> cases b <;> cases bz <;> cases by_ <;> (
                          go_quiet (fail)
                          go_wp2
                          (try clear hKR)
                          go_ret2
                          exact ⟨by rw [HF1.out]; rfl, by repeat (first | assumption | exact (‹_ ∧ _ ∧ Below _ _ _›).2.2 | exact HX8.out.1 | exact un_drew HX8.out.1 | apply pw_below_drewN)⟩)
          | false =>
            as_aux_lemma =>
              obtain ⟨m, hm⟩ : ∃ m, span D10 (a.data.toList.drop sg) = m := ⟨_, rfl⟩
              have hsm : sg + m ≤ a.size := by rw [← hm]; exact span_sz D10 a hsg
              have hF0 : ntF L = if m = 0 then (0, false) else if at1 46 (L.drop (sg + m)) = true then ntE L (sg + m + 1 + span D10 (L.drop (sg + m + 1))) else ntE L (sg + m) := by
                unfold ntF
                rw [← HS.out.1, hLL, if_neg (by rw [HT0.out.1]; simp), hm]
              have HF0 := Aside0.mk hF0
              have HDD := Aside0.mk (HD.out D10 57 (.inr ⟨rfl, rfl⟩) _ sg HT0.out.2 hsg)
              rw [hm] at HDD
              clear hF0 hm
              by_cases hm0 : m = 0
              · subst hm0
                have HF1 := Aside0.mk (show ntF L = (0, false) from by rw [HF0.out]; rfl)
                go_wp2_with (go_at_call 26; refine HDD.out.mono ?_; rintro e wd ⟨rfl, hxd⟩; have HX9 := Aside0.mk hxd; clear hxd)
                (try clear hKR)
                go_ret2
                exact ⟨by rw [HF1.out]; rfl, HX9.out.1⟩
              · have b0 : ((m : Int) == 0) = false := beq_eq_false_iff_ne.2 (by omega)
                have b0n : (m == 0) = false := beq_eq_false_iff_ne.2 hm0
                obtain ⟨p, hpe⟩ : ∃ p, sg + m = p := ⟨_, rfl⟩
                rw [hpe] at HDD HF0 hsm
                rw [if_neg hm0] at HF0
                go_upto_region 24 with (go_at_call 26; refine HDD.out.mono ?_; rintro e wd ⟨rfl, hxd⟩; have HX9 := Aside0.mk hxd; clear hxd)
                (try clear hKR)
                go_cut [157] (fun vS wc => ∃ b : Bool, vS = .bool b ∧ Aside0 (at1 46 (a.data.toList.drop p) = b ∧ Nt w wc a p))
                case first => as_aux_lemma =>
                  rename_i KK hKK JJ KM hJJ hMM
                  clear hKK
                  have cA := HX9.out.cA
                  have cB := HX9.out.cB
                  have fB := HX9.out.fB
                  obtain ⟨LD, hLD⟩ : ∃ LD, a.data.toList.drop p = LD := ⟨_, rfl⟩
                  have HLD := Aside0.mk hLD
                  cases LD with
                  | nil =>
                    have hl := hLD
                    have he := nt_nil hl (by omega)
                    have d1 : decide ((p : Int) < (a.size : Int)) = false := decide_eq_false (by omega)
                    have d1n : decide (p < a.size) = false := decide_eq_false (by omega)
                    clear hl he hLD
                    go_wp2
                    (try clear hKR)
                    go_meet
                    case rel => exact ⟨_, rfl, ⟨by rw [HLD.out]; rfl, by repeat (first | exact HX9.out | apply Nt.drewN)⟩⟩
                  | cons c t =>
                    have hl := hLD
                    obtain ⟨hlt, hxx⟩ := nt_cons hl
                    have d1 : decide ((p : Int) < (a.size : Int)) = true := decide_eq_true (by omega)
                    have d1n : decide (p < a.size) = true := decide_eq_true hlt
                    have j0 : (0 : Int) ≤ (p : Int) := by omega
                    have j1 : (p : Int) < (a.size : Int) := by omega
                    skip
                    obtain ⟨bb, hbb⟩ : ∃ b, ((c.toNat : Int) == 46) = b := ⟨_, rfl⟩
                    have hbn : at1 46 (c :: t) = bb := by
                      rw [← hbb]
                      show _ = ((c.toNat : Int) == 46)
                      rw [Bool.eq_iff_iff]
                      simp only [at1, beq_iff_eq]
                      omega
                    have HBN := Aside0.mk hbn
                    clear hl hbn hLD
                    cases bb <;> (
                      go_wp2
                      (try clear hKR)
                      go_meet
                      case rel => exact ⟨_, rfl, ⟨by rw [HLD.out]; exact HBN.out, by repeat (first | exact HX9.out | apply Nt.drewN)⟩⟩)
                case rest => as_aux_lemma =>
                  clear HX9
                  obtain ⟨bD, rfl, HTD⟩ := hcut
                  rename_i KR hKR
                  go_upto_if 157 with (fail)
                  (try clear hKR)
                  go_cut [] (fun wc => ∃ q, q ≤ a.size ∧ Aside0 (ntF L = ntE L q ∧ q ≤ a.size ∧ Nt w wc a q))
                  case first => as_aux_lemma =>
                    rename_i KK hKK JJ KM hJJ hMM
                    clear hKK
                    have cB := HTD.out.2.cB
                    have fB := HTD.out.2.fB
                    cases bD with
                    | false =>
                      have HF1 := Aside0.mk (show ntF L = ntE L p from by rw [HF0.out, hLL, if_neg (by rw [HTD.out.1]; simp)])
                      go_wp2
                      (try clear hKR)
                      go_meet
                      case rel => exact ⟨p, hsm, ⟨HF1.out, hsm, by repeat (first | exact HTD.out.2 | apply Nt.drewN)⟩⟩
                    | true =>
                      have hp1 : p + 1 ≤ a.size := at_sz HTD.out.1
                      obtain ⟨p1, hp1e⟩ : ∃ p1, p + 1 = p1 := ⟨_, rfl⟩
                      have hw1 : IntKind.i64.wrap ((p : Int) + 1) = (p1 : Int) := by rw [IntKind.wrap_i64]; omega
                      rw [hp1e] at hp1
                      obtain ⟨m2, hm2⟩ : ∃ m2, span D10 (a.data.toList.drop p1) = m2 := ⟨_, rfl⟩
                      have hsm2 : p1 + m2 ≤ a.size := by rw [← hm2]; exact span_sz D10 a hp1
                      have HF1 := Aside0.mk (show ntF L = ntE L (p1 + m2) from by rw [HF0.out, hLL, if_pos HTD.out.1, hp1e, ← hm2, hLL])
                      have HDD2 := Aside0.mk (fun W (h : Nt w W a p1) => HD.out D10 57 (.inr ⟨rfl, rfl⟩) W p1 h hp1)
                      rw [hm2] at HDD2
                      clear hm2
                      go_wp2_with (go_at_call 26; refine (HDD2.out _ (by repeat (first | exact Nt.set HTD.out.2 p1 | apply Nt.drewN))).mono ?_; rintro e wd ⟨rfl, hxd⟩; have HX8 := Aside0.mk hxd; clear hxd)
                      (try clear hKR)
                      go_meet
                      case rel => exact ⟨p1 + m2, hsm2, ⟨HF1.out, hsm2, HX8.out⟩⟩
                  case rest => as_aux_lemma =>
                    clear HTD
                    obtain ⟨q, hqs, HTQ⟩ := hcut
                    rename_i KR hKR
                    go_upto_region 27 with (fail)
                    (try clear hKR)
                    go_cut [172] (fun vS wc => ∃ b : Bool, vS = .bool b ∧ Aside0 (atL 101 (a.data.toList.drop q) = b ∧ Nt w wc a q))
                    case first => as_aux_lemma =>
                      rename_i KK hKK JJ KM hJJ hMM
                      clear hKK
                      have cA := HTQ.out.2.2.cA
                      have cB := HTQ.out.2.2.cB
                      have fB := HTQ.out.2.2.fB
                      obtain ⟨LD, hLD⟩ : ∃ LD, a.data.toList.drop q = LD := ⟨_, rfl⟩
                      have HLD := Aside0.mk hLD
                      cases LD with
                      | nil =>
                        have hl := hLD
                        have he := nt_nil hl (by omega)
                        have d1 : decide ((q : Int) < (a.size : Int)) = false := decide_eq_false (by omega)
                        have d1n : decide (q < a.size) = false := decide_eq_false (by omega)
                        clear hl he hLD
                        go_wp2
                        (try clear hKR)
                        go_meet
                        case rel => exact ⟨_, rfl, ⟨by rw [HLD.out]; rfl, by repeat (first | exact HTQ.out.2.2 | apply Nt.drewN)⟩⟩
                      | cons c t =>
                        have hl := hLD
                        obtain ⟨hlt, hxx⟩ := nt_cons hl
                        have d1 : decide ((q : Int) < (a.size : Int)) = true := decide_eq_true (by omega)
                        have d1n : decide (q < a.size) = true := decide_eq_true hlt
                        have j0 : (0 : Int) ≤ (q : Int) := by omega
                        have j1 : (q : Int) < (a.size : Int) := by omega
                        have hlo := nt_lower c
                        obtain ⟨bb, hbb⟩ : ∃ b, (((c.toNat ||| 32 : Nat) : Int) == 101) = b := ⟨_, rfl⟩
                        have hbn : atL 101 (c :: t) = bb := by
                          rw [← hbb]
                          show _ = (((c.toNat ||| 32 : Nat) : Int) == 101)
                          rw [Bool.eq_iff_iff]
                          simp only [atL, beq_iff_eq]
                          omega
                        have HBN := Aside0.mk hbn
                        clear hl hbn hLD
                        cases bb <;> (
                          go_wp2
                          (try clear hKR)
                          go_meet
                          case rel => exact ⟨_, rfl, ⟨by rw [HLD.out]; exact HBN.out, by repeat (first | exact HTQ.out.2.2 | apply Nt.drewN)⟩⟩)
                    case rest => as_aux_lemma =>
                      obtain ⟨bE, rfl, HTE⟩ := hcut
                      rename_i KR hKR
                      cases bE with
                      | false =>
                        have HF1 := Aside0.mk (show ntF L = (((q : Nat) : Int), true) from by rw [HTQ.out.1]; unfold ntE; rw [if_neg (by rw [hLL, HTE.out.1]; simp)])
                        have cB := HTE.out.2.cB
                        go_wp2
                        (try clear hKR)
                        go_ret2
                        exact ⟨by rw [HF1.out]; rfl, by repeat (first | exact HTE.out.2.1 | apply pw_below_drewN)⟩
                      | true =>
                        have cB := HTE.out.2.cB
                        have fB := HTE.out.2.fB
                        have hq1 : q + 1 ≤ a.size := at_sz HTE.out.1
                        obtain ⟨q1, hq1e⟩ : ∃ q1, q + 1 = q1 := ⟨_, rfl⟩
                        have hw1 : IntKind.i64.wrap ((q : Int) + 1) = (q1 : Int) := by rw [IntKind.wrap_i64]; omega
                        rw [hq1e] at hq1
                        go_upto_region 29 with (fail)
                        (try clear hKR)
                        have HQ1 := Aside0.mk (show Nt w _ a q1 from by repeat (first | exact Nt.set HTE.out.2 q1 | apply Nt.drewN))
                        clear cB fB hw1
                        go_cut [190] (fun vS wc => ∃ b : Bool, vS = .bool b ∧ Aside0 (hd PM (a.data.toList.drop q1) = b ∧ Nt w wc a q1))
                        case first => as_aux_lemma =>
                          rename_i KK hKK JJ KM hJJ hMM
                          clear hKK
                          have cA := HQ1.out.cA
                          have cB := HQ1.out.cB
                          have fB := HQ1.out.fB
                          obtain ⟨LD, hLD⟩ : ∃ LD, a.data.toList.drop q1 = LD := ⟨_, rfl⟩
                          have HLD := Aside0.mk hLD
                          cases LD with
                          | nil =>
                            have hl := hLD
                            have he := nt_nil hl hq1
                            have d1 : decide ((q1 : Int) < (a.size : Int)) = false := decide_eq_false (by omega)
                            have d1n : decide (q1 < a.size) = false := decide_eq_false (by omega)
                            clear hl he hLD
                            go_wp2
                            (try clear hKR)
                            go_meet
                            case rel => exact ⟨_, rfl, ⟨by rw [HLD.out]; rfl, by repeat (first | exact HQ1.out | apply Nt.drewN)⟩⟩
                          | cons c t =>
                            have hl := hLD
                            obtain ⟨hlt, hxx⟩ := nt_cons hl
                            have d1 : decide ((q1 : Int) < (a.size : Int)) = true := decide_eq_true (by omega)
                            have d1n : decide (q1 < a.size) = true := decide_eq_true hlt
                            have j0 : (0 : Int) ≤ (q1 : Int) := by omega
                            have j1 : (q1 : Int) < (a.size : Int) := by omega
                            obtain ⟨b43, h43⟩ : ∃ b, ((c.toNat : Int) == 43) = b := ⟨_, rfl⟩
                            obtain ⟨b45, h45⟩ : ∃ b, ((c.toNat : Int) == 45) = b := ⟨_, rfl⟩
                            have HBN := Aside0.mk (pm_hd t h43 h45)
                            clear hl hLD
                            cases b43 <;> cases b45 <;> (
                              go_wp2
                              (try clear hKR)
                              go_meet
                              case rel => exact ⟨_, rfl, ⟨by rw [HLD.out]; exact HBN.out, by repeat (first | exact HQ1.out | apply Nt.drewN)⟩⟩)
                        case rest => as_aux_lemma =>
                          obtain ⟨bS, rfl, HTS⟩ := hcut
                          rename_i KR hKR
                          go_upto_if 190 with (fail)
                          (try clear hKR)
                          go_cut [] (fun wc => ∃ s, s ≤ a.size ∧ Aside0 (s = q1 + opt PM (a.data.toList.drop q1) ∧ Nt w wc a s))
                          case first => as_aux_lemma =>
                            rename_i KK hKK JJ KM hJJ hMM
                            clear hKK
                            have cB := HTS.out.2.cB
                            have fB := HTS.out.2.fB
                            cases bS with
                            | false =>
                              have ho : opt PM (a.data.toList.drop q1) = 0 := by unfold opt; rw [if_neg (by rw [HTS.out.1]; simp)]
                              have HO := Aside0.mk ho
                              clear ho
                              go_wp2
                              (try clear hKR)
                              go_meet
                              case rel => exact ⟨q1, hq1, ⟨by rw [HO.out]; rfl, by repeat (first | exact HTS.out.2 | apply Nt.drewN)⟩⟩
                            | true =>
                              have ho : opt PM (a.data.toList.drop q1) = 1 := by unfold opt; rw [if_pos HTS.out.1]
                              have hs1 := hd_sz HTS.out.1
                              have HO := Aside0.mk ho
                              have hw1 : IntKind.i64.wrap ((q1 : Int) + 1) = ((q1 + 1 : Nat) : Int) := by rw [IntKind.wrap_i64]; omega
                              clear ho
                              go_wp2
                              (try clear hKR)
                              go_meet
                              case rel => exact ⟨q1 + 1, hs1, ⟨by rw [HO.out], by repeat (first | exact Nt.set HTS.out.2 (q1 + 1) | apply Nt.drewN)⟩⟩
                          case rest => as_aux_lemma =>
                            clear HQ1 HTS
                            obtain ⟨s, hs, HSS⟩ := hcut
                            rename_i KR hKR
                            obtain ⟨x, hx⟩ : ∃ x, span D10 (a.data.toList.drop s) = x := ⟨_, rfl⟩
                            have HXX := Aside0.mk hx
                            have hsx : s + x ≤ a.size := by rw [← hx]; exact span_sz D10 a hs
                            have hFE : ntE L q = if x = 0 then (0, false) else (((s + x : Nat) : Int), true) := by
                              unfold ntE
                              simp only [hLL]
                              rw [if_pos HTE.out.1, hq1e, ← HSS.out.1, hx]
                            have HFE := Aside0.mk hFE
                            clear hx hFE
                            have HDD := Aside0.mk (HD.out D10 57 (.inr ⟨rfl, rfl⟩) _ s HSS.out.2 hs)
                            rw [HXX.out] at HDD
                            by_cases hx0 : x = 0
                            · subst hx0
                              have HF1 := Aside0.mk (show ntF L = (0, false) from by rw [HTQ.out.1, HFE.out]; rfl)
                              go_wp2_with (go_at_call 26; refine HDD.out.mono ?_; rintro e wd ⟨rfl, hxd⟩; have HX9 := Aside0.mk hxd; clear hxd)
                              (try clear hKR)
                              go_ret2
                              exact ⟨by rw [HF1.out]; rfl, HX9.out.1⟩
                            · have HF1 := Aside0.mk (show ntF L = (((s + x : Nat) : Int), true) from by rw [HTQ.out.1, HFE.out, if_neg hx0])
                              have b0 : ((x : Int) == 0) = false := beq_eq_false_iff_ne.2 (by omega)
                              have b0n : (x == 0) = false := beq_eq_false_iff_ne.2 hx0
                              go_upto_if 195 with (go_at_call 26; refine HDD.out.mono ?_; rintro e wd ⟨rfl, hxd⟩; have HX9 := Aside0.mk hxd; clear hxd)
                              (try clear hKR)
                              have cB := HX9.out.cB
                              go_wp2
                              (try clear hKR)
                              go_ret2
                              exact ⟨by rw [HF1.out]; rfl, by repeat (first | exact HX9.out.1 | apply pw_below_drewN)⟩

def spec_NumberText.f (a0 : ByteArray) : Option (Int × Bool) := if a0.size = 0 then none else if a0.size ≤ 100000 then some (ntF a0.data.toList) else none
theorem spec_NumberText.calls (a0 : ByteArray) (r1 : Int) (r2 : Bool) (w : World) (h : spec_NumberText.f a0 = some (r1, r2)) :
    Calls Tryd.prog 15 #[.string a0] w fun e w' => e = .returned (.tuple #[.int .i64 r1, .bool r2]) ∧ Below w.heap.size w w' := by
  unfold spec_NumberText.f at h
  split at h
  · cases h
  · rename_i h0
    split at h
    · rename_i h1
      have h2 := nt_calls w a0 (by omega) h1
      rw [Option.some.inj h] at h2
      exact h2
    · cases h

end Go.Proofs.YthcafnmagidpiaaDoor.MFnVtTokens
