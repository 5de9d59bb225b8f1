/- Every byte reads the same in a byte string as two hexadecimal digits behind x, as three octal digits behind 0, and as itself; three octal digits above 377 are an error. -/
import Derived.Test.YtngbhojjjkdofaaDoorMFnVtBytesHexx11
import Derived.Test.YtngbhojjjkdofaaDoorHlp
import Derived.OpenShut
namespace Go.Proofs.YtngbhojjjkdofaaDoor.Pure
open Go Go.RowKit Go.Proofs.YtngbhojjjkdofaaDoor.MFnVtBytesHex Go.Proofs.YtngbhojjjkdofaaDoorW.PrintWords Go.Proofs.YtngbhojjjkdofaaDoorW.PrintLast Go.Proofs.YtngbhojjjkdofaaDoor.Hlp
set_option linter.unusedVariables false

theorem wu64 {x : Int} (h0 : 0 ≤ x) (h : x ≤ 65535) : IntKind.u64.wrap x = x := by
  simp [IntKind.wrap, IntKind.bits, IntKind.signed]
  omega
theorem wu16 {x : Int} (h0 : 0 ≤ x) (h : x ≤ 65535) : IntKind.u16.wrap x = x := by
  simp [IntKind.wrap, IntKind.bits, IntKind.signed]
  omega
/-- Three octal digits. -/
def o3 (n : Nat) : List UInt8 := [dch (n / 64), dch (n / 8 % 8), dch (n % 8)]
/-- Two hexadecimal digits. -/
def h2 (n : Nat) : List UInt8 := [dch (n / 16), dch (n % 16)]
def pad : Nat → List UInt8 → List UInt8
  | 0, l => l
  | n + 1, l => 48 :: pad n l
theorem dch0 : dch 0 = 48 := by decide
theorem o3_dig {n : Nat} (h : n < 512) : ∃ p, p + (digs 8 n).length = 3 ∧ pad p (digs 8 n) = o3 n := by
  by_cases h1 : n < 8
  · rw [digs_small h1]
    refine ⟨2, rfl, ?_⟩
    show [48, 48, dch n] = [dch (n / 64), dch (n / 8 % 8), dch (n % 8)]
    rw [show n / 64 = 0 by omega, show n / 8 % 8 = 0 by omega, show n % 8 = n by omega, dch0]
  · by_cases h2 : n / 8 < 8
    · rw [digs_step (by omega) (by omega), digs_small h2]
      refine ⟨1, rfl, ?_⟩
      show [48, dch (n / 8), dch (n % 8)] = [dch (n / 64), dch (n / 8 % 8), dch (n % 8)]
      rw [show n / 64 = 0 by omega, show n / 8 % 8 = n / 8 by omega, dch0]
    · rw [digs_step (by omega) (by omega), digs_step (u := n / 8) (by omega) (by omega), digs_small (u := n / 8 / 8) (by omega)]
      refine ⟨0, rfl, ?_⟩
      show [dch (n / 8 / 8), dch (n / 8 % 8), dch (n % 8)] = [dch (n / 64), dch (n / 8 % 8), dch (n % 8)]
      rw [show n / 8 / 8 = n / 64 by omega]
theorem h2_dig {n : Nat} (h : n < 256) : ∃ p, p + (digs 16 n).length = 2 ∧ pad p (digs 16 n) = h2 n := by
  by_cases h1 : n < 16
  · rw [digs_small h1]
    refine ⟨1, rfl, ?_⟩
    show [48, dch n] = [dch (n / 16), dch (n % 16)]
    rw [show n / 16 = 0 by omega, show n % 16 = n by omega, dch0]
  · rw [digs_step (by omega) (by omega), digs_small (u := n / 16) (by omega)]
    exact ⟨0, rfl, rfl⟩
theorem n8_fin : ∀ n : Fin 256, numOf 8 [dch (n.val / 64), dch (n.val / 8 % 8), dch (n.val % 8)] 0 = some n.val := by decide +kernel
theorem n8_big : ∀ n : Fin 256, numOf 8 [dch ((256 + n.val) / 64), dch ((256 + n.val) / 8 % 8), dch ((256 + n.val) % 8)] 0 = none := by decide +kernel
theorem n16_fin : ∀ n : Fin 256, numOf 16 [dch (n.val / 16), dch (n.val % 16)] 0 = some n.val := by decide +kernel
theorem n16_up : ∀ n : Fin 256, numOf 16 [upc (dch (n.val / 16)), upc (dch (n.val % 16))] 0 = some n.val := by decide +kernel

theorem vb_some {t : ByteArray} {b q e : UInt8} {mid : List UInt8} {xs : List Int} (h : bl t = b :: q :: (mid ++ [e])) (hm : mid.length ≤ 100) (hp : pgo [] mid = some (some xs)) : impl_VtBytes.f t = some (strOfNums (xs ++ [0]), true) := by
  have hs : t.size = mid.length + 3 := by rw [← bl_len, h]; simp
  unfold impl_VtBytes.f
  rw [if_pos (by omega), if_neg (by omega)]
  rw [show (t.data.toList.drop 2).take (t.size - 3) = mid by
    show ((bl t).drop 2).take (t.size - 3) = mid
    rw [h, hs]
    show (mid ++ [e]).take (mid.length + 3 - 3) = mid
    rw [show mid.length + 3 - 3 = mid.length by omega, List.take_left]]
  rw [hp]
theorem vb_none {t : ByteArray} {b q e : UInt8} {mid : List UInt8} (h : bl t = b :: q :: (mid ++ [e])) (hm : mid.length ≤ 100) (hp : pgo [] mid = some none) : impl_VtBytes.f t = some (⟨#[]⟩, false) := by
  have hs : t.size = mid.length + 3 := by rw [← bl_len, h]; simp
  unfold impl_VtBytes.f
  rw [if_pos (by omega), if_neg (by omega)]
  rw [show (t.data.toList.drop 2).take (t.size - 3) = mid by
    show ((bl t).drop 2).take (t.size - 3) = mid
    rw [h, hs]
    show (mid ++ [e]).take (mid.length + 3 - 3) = mid
    rw [show mid.length + 3 - 3 = mid.length by omega, List.take_left]]
  rw [hp]
theorem rdS (l : List ByteArray) (i : Nat) (h : i < l.length) : rdOf ByteArray.empty l (i : Int) = l[i] := by simp [rdOf, List.getD, h]
/-- The last test: three octal digits above 377. -/
theorem fin_ev {x1 : Int} (h0 : 0 ≤ x1) (h1 : x1 ≤ 65535) : ((strconv_FormatUint_8.f (IntKind.u64.wrap (IntKind.u16.wrap (256 + (Int.tmod x1 256)))) 8).bind fun t153 => (if 4 + t153.size ≤ 9223372036854775807 then (if ((⟨#[98, 39, 92, 48]⟩ : ByteArray) ++ t153).size + 1 ≤ 9223372036854775807 then ((impl_VtBytes.f (((⟨#[98, 39, 92, 48]⟩ : ByteArray) ++ t153) ++ (⟨#[39]⟩ : ByteArray))).bind fun bt154 => (some (!bt154.2))) else (none)) else (none))) = some true := by
  obtain ⟨m, hm, hmn⟩ : ∃ m : Nat, Int.tmod x1 256 = (m : Int) ∧ m < 256 := by
    rw [Int.tmod_eq_emod_of_nonneg h0]
    exact ⟨(x1 % 256).toNat, by omega, by omega⟩
  rw [hm, wu16 (by omega) (by omega), wu64 (by omega) (by omega)]
  have hf : strconv_FormatUint_8.f (256 + (m : Int)) 8 = some ⟨(o3 (256 + m)).toArray⟩ := by
    unfold strconv_FormatUint_8.f
    rw [if_pos (by omega), if_pos rfl]
    obtain ⟨p, hp, he⟩ := o3_dig (n := 256 + m) (by omega)
    have h3 : (digs 8 (256 + m)).length = 3 := by
      rw [digs_step (by omega) (by omega), digs_step (u := (256 + m) / 8) (by omega) (by omega), digs_small (u := (256 + m) / 8 / 8) (by omega)]
      rfl
    have hp0 : p = 0 := by omega
    subst hp0
    rw [show (256 + (m : Int)).toNat = 256 + m by omega, ← he]
    rfl
  rw [hf, Option.bind_some]
  have hsz : (⟨(o3 (256 + m)).toArray⟩ : ByteArray).size = 3 := rfl
  rw [if_pos (by rw [hsz]; omega), if_pos (by rw [ByteArray.size_append, hsz]; show 4 + 3 + 1 ≤ _; omega)]
  rw [vb_none (b := 98) (q := 39) (e := 39) (mid := 92 :: 48 :: o3 (256 + m)) (by rw [bl_append, bl_append]; rfl) (by simp [o3]) (by
    show pgo [] (92 :: 48 :: dch ((256 + m) / 64) :: dch ((256 + m) / 8 % 8) :: dch ((256 + m) % 8) :: []) = _
    rw [pgo_o, n8_big ⟨m, hmn⟩])]
  rfl
theorem l1_run {x1 : Int} {x5 : ByteArray} {l : List ByteArray} (hl : l.length ≤ 10) (hall : ∀ t ∈ l, impl_VtBytes.f t = some (x5, true)) (h0 : 0 ≤ x1) (h1 : x1 ≤ 65535) :
    ∀ m i : Nat, i + m = l.length → Ev (fun k => laws_FnVtBytesHex.l1 k x1 x5 l (l.length : Int) (i : Int)) true := by
  intro m
  induction m with
  | zero =>
    intro i hi
    refine Ev.step (f := fun _ => some true) (fun k => ?_) (Ev.now true)
    simp only [laws_FnVtBytesHex.l1]
    rw [if_neg (by omega), fin_ev h0 h1]
  | succ m ih =>
    intro i hi
    refine Ev.step (fun k => ?_) (ih (i + 1) (by omega))
    simp only [laws_FnVtBytesHex.l1]
    rw [if_pos (by omega), if_pos (by omega), if_pos (by omega), rdS l i (by omega), hall _ (List.getElem_mem _), Option.bind_some]
    simp only
    rw [if_pos trivial, if_pos trivial, w64 (by omega) (by omega)]
    rfl
theorem pad_run (x0 x1 : Int) (x5 : ByteArray) {r : Bool} : ∀ (p : Nat) (x6 : ByteArray), p + x6.size = 3 → Ev (fun k => laws_FnVtBytesHex.l0 k x0 x1 x5 ⟨(pad p (bl x6)).toArray⟩) r → Ev (fun k => laws_FnVtBytesHex.l0 k x0 x1 x5 x6) r
  | 0, x6, h, he => by
    have : (⟨(pad 0 (bl x6)).toArray⟩ : ByteArray) = x6 := by apply bl_ext; simp [pad, bl]
    rwa [this] at he
  | p + 1, x6, h, he => by
    refine Ev.step (f := fun k => laws_FnVtBytesHex.l0 k x0 x1 x5 ((⟨#[48]⟩ : ByteArray) ++ x6)) (fun k => ?_) ?_
    · simp only [laws_FnVtBytesHex.l0]
      rw [if_pos (by omega), if_pos (by omega)]
    · refine pad_run x0 x1 x5 p _ (by rw [ByteArray.size_append]; show p + (1 + x6.size) = 3; omega) ?_
      have hq : ∀ (p : Nat) (l : List UInt8), pad p (48 :: l) = 48 :: pad p l := by
        intro p
        induction p with
        | zero => intro l; rfl
        | succ p ih => intro l; show 48 :: pad p (48 :: l) = _; rw [ih]; rfl
      have : bl ((⟨#[48]⟩ : ByteArray) ++ x6) = 48 :: bl x6 := by rw [bl_append]; rfl
      rw [this, hq]
      exact he
theorem hx_run (a : Int) {r : ByteArray} : ∀ (p : Nat) (x6 : ByteArray), p + x6.size = 2 → r = ⟨(pad p (bl x6)).toArray⟩ → Ev (fun k => laws_vtHex.l0 k 2 x6) r
  | 0, x6, h, he => by
    have : (⟨(pad 0 (bl x6)).toArray⟩ : ByteArray) = x6 := by apply bl_ext; simp [pad, bl]
    rw [this] at he
    subst he
    refine Ev.step (f := fun _ => some r) (fun k => ?_) (Ev.now r)
    simp only [laws_vtHex.l0]
    rw [if_neg (by omega)]
  | p + 1, x6, h, he => by
    refine Ev.step (f := fun k => laws_vtHex.l0 k 2 ((⟨#[48]⟩ : ByteArray) ++ x6)) (fun k => ?_) ?_
    · simp only [laws_vtHex.l0]
      rw [if_pos (by omega), if_pos (by omega)]
    · refine hx_run a p _ (by rw [ByteArray.size_append]; show p + (1 + x6.size) = 2; omega) ?_
      have hq : ∀ (p : Nat) (l : List UInt8), pad p (48 :: l) = 48 :: pad p l := by
        intro p
        induction p with
        | zero => intro l; rfl
        | succ p ih => intro l; show 48 :: pad p (48 :: l) = _; rw [ih]; rfl
      have : bl ((⟨#[48]⟩ : ByteArray) ++ x6) = 48 :: bl x6 := by rw [bl_append]; rfl
      rw [this, hq]
      exact he
theorem hex_ev {n : Nat} (h : n < 256) : Ev (fun k => laws_vtHex.f k (IntKind.u64.wrap (n : Int)) 2) ⟨(h2 n).toArray⟩ := by
  obtain ⟨p, hp, he⟩ := h2_dig h
  have hx := hx_run (n : Int) (r := ⟨(h2 n).toArray⟩) p ⟨(digs 16 n).toArray⟩ hp (by rw [← he]; simp [bl])
  refine Ev.congr (fun k => ?_) hx
  unfold laws_vtHex.f
  rw [wu64 (by omega) (by omega)]
  unfold strconv_FormatUint_8.f
  rw [if_pos (by omega), if_neg (by omega), if_pos rfl, Option.bind_some]
  rfl
theorem j2_ev {x1 : Int} {x5 : ByteArray} {l : List ByteArray} (hl : l.length ≤ 10) (hall : ∀ t ∈ l, impl_VtBytes.f t = some (x5, true)) (h0 : 0 ≤ x1) (h1 : x1 ≤ 65535) : Ev (fun k => laws_FnVtBytesHex.j2 k x1 x5 l) true := by
  refine Ev.step (fun k => ?_) (l1_run hl hall h0 h1 l.length 0 (by omega))
  simp only [laws_FnVtBytesHex.j2]
  rfl
theorem tx_o {n : Nat} (h : n < 256) : impl_VtBytes.f (((⟨#[98, 39, 92, 48]⟩ : ByteArray) ++ ⟨(o3 n).toArray⟩) ++ (⟨#[39]⟩ : ByteArray)) = some (strOfNums [(n : Int), 0], true) :=
  vb_some (b := 98) (q := 39) (e := 39) (mid := 92 :: 48 :: o3 n) (xs := [(n : Int)]) (by rw [bl_append, bl_append]; rfl) (by simp [o3]) (by
    show pgo [] (92 :: 48 :: dch (n / 64) :: dch (n / 8 % 8) :: dch (n % 8) :: []) = _
    rw [pgo_o, n8_fin ⟨n, h⟩]
    simp only
    rw [pgo_nil]
    rfl)
theorem tx_x {n : Nat} (h : n < 256) : impl_VtBytes.f (((⟨#[98, 39, 92, 120]⟩ : ByteArray) ++ ⟨(h2 n).toArray⟩) ++ (⟨#[39]⟩ : ByteArray)) = some (strOfNums [(n : Int), 0], true) :=
  vb_some (b := 98) (q := 39) (e := 39) (mid := 92 :: 120 :: h2 n) (xs := [(n : Int)]) (by rw [bl_append, bl_append]; rfl) (by simp [h2]) (by
    show pgo [] (92 :: 120 :: dch (n / 16) :: dch (n % 16) :: []) = _
    rw [pgo_x, n16_fin ⟨n, h⟩]
    simp only
    rw [pgo_nil]
    rfl)
theorem tx_u {n : Nat} (h : n < 256) : impl_VtBytes.f (((⟨#[98, 34, 92, 120]⟩ : ByteArray) ++ ⟨((h2 n).map upc).toArray⟩) ++ (⟨#[34]⟩ : ByteArray)) = some (strOfNums [(n : Int), 0], true) :=
  vb_some (b := 98) (q := 34) (e := 34) (mid := 92 :: 120 :: (h2 n).map upc) (xs := [(n : Int)]) (by rw [bl_append, bl_append]; rfl) (by simp [h2]) (by
    show pgo [] (92 :: 120 :: upc (dch (n / 16)) :: upc (dch (n % 16)) :: []) = _
    rw [pgo_x, n16_up ⟨n, h⟩]
    simp only
    rw [pgo_nil]
    rfl)
theorem tx_c {n : Nat} (h : n < 256) (hn : n ≠ 92) : impl_VtBytes.f (((⟨#[98, 39]⟩ : ByteArray) ++ ((strOfNums [(n : Int), 0]).extract 0 1)) ++ (⟨#[39]⟩ : ByteArray)) = some (strOfNums [(n : Int), 0], true) := by
  have he : bl (strOfNums [(n : Int), 0]) = [UInt8.ofNat n, 0] := by
    simp [bl, strOfNums]
  have hb : bl (((⟨#[98, 39]⟩ : ByteArray) ++ ((strOfNums [(n : Int), 0]).extract 0 1)) ++ (⟨#[39]⟩ : ByteArray)) = 98 :: 39 :: ([UInt8.ofNat n] ++ [39]) := by
    rw [bl_append, bl_append, bl_extract, he]; rfl
  have ht : (UInt8.ofNat n).toNat = n := by simp; omega
  refine vb_some (mid := [UInt8.ofNat n]) (xs := [(n : Int)]) hb (by simp) ?_
  rw [pgo_plain (by intro hc; have := congrArg UInt8.toNat hc; rw [ht] at this; exact hn this), ht, pgo_nil]
  rfl
theorem FnVtBytesHex : laws_FnVtBytesHex.Pure := by
  intro a0 a1 w0 w1
  have b0 := bounds_u8 w0
  have b1 := bounds_u16 w1
  obtain ⟨n, rfl⟩ : ∃ n : Nat, a0 = (n : Int) := ⟨a0.toNat, by omega⟩
  have hn : n < 256 := by omega
  clear w0 w1
  obtain ⟨l, hl⟩ : ∃ l, l = ([((⟨#[98, 39, 92, 120]⟩ : ByteArray) ++ ⟨(h2 n).toArray⟩) ++ (⟨#[39]⟩ : ByteArray), ((⟨#[98, 34, 92, 120]⟩ : ByteArray) ++ ⟨((h2 n).map upc).toArray⟩) ++ (⟨#[34]⟩ : ByteArray), ((⟨#[98, 39, 92, 48]⟩ : ByteArray) ++ ⟨(o3 n).toArray⟩) ++ (⟨#[39]⟩ : ByteArray)] : List ByteArray) := ⟨_, rfl⟩
  have hll : l.length = 3 := by rw [hl]; rfl
  have hall : ∀ t ∈ l, impl_VtBytes.f t = some (strOfNums [(n : Int), 0], true) := by
    intro t ht
    rw [hl] at ht
    simp only [List.mem_cons, List.not_mem_nil, or_false] at ht
    rcases ht with rfl | rfl | rfl
    · exact tx_x hn
    · exact tx_u hn
    · exact tx_o hn
  have jf : Ev (fun k => laws_FnVtBytesHex.j1 k a1 (strOfNums [(n : Int), 0]) l false) true := by
    refine Ev.step (fun k => ?_) (j2_ev (x1 := a1) (x5 := strOfNums [(n : Int), 0]) (l := l) (by omega) hall b1.1 b1.2)
    simp only [laws_FnVtBytesHex.j1]
    rw [if_neg (by simp)]
  have jt : n ≠ 92 → Ev (fun k => laws_FnVtBytesHex.j1 k a1 (strOfNums [(n : Int), 0]) l true) true := by
    intro hn92
    have hss : (strOfNums [(n : Int), 0]).size = 2 := by rw [strOfNums_size]; rfl
    have he1 : ((strOfNums [(n : Int), 0]).extract 0 1).size = 1 := by rw [← bl_len, bl_extract]; simp [bl_len, hss]
    refine Ev.step (fun k => ?_) (j2_ev (x1 := a1) (x5 := strOfNums [(n : Int), 0]) (l := l ++ [((⟨#[98, 39]⟩ : ByteArray) ++ ((strOfNums [(n : Int), 0]).extract 0 1)) ++ (⟨#[39]⟩ : ByteArray)]) (by simp; omega) (by
      intro t ht
      rcases List.mem_append.1 ht with h | h
      · exact hall t h
      · simp only [List.mem_cons, List.not_mem_nil, or_false] at h
        subst h
        exact tx_c hn hn92) b1.1 b1.2)
    simp only [laws_FnVtBytesHex.j1]
    rw [if_pos trivial, if_pos (by omega), if_pos (by omega), if_pos (by omega), if_pos (by rw [ByteArray.size_append, he1]; show 2 + 1 + 1 ≤ _; omega), if_pos (by omega)]
  have l0e : Ev (fun k => laws_FnVtBytesHex.l0 k (n : Int) a1 (strOfNums [(n : Int), 0]) ⟨(o3 n).toArray⟩) true := by
    have hh := hex_ev hn
    have rest : Ev (fun k => if (n : Int) = 39 then (laws_FnVtBytesHex.j1 k a1 (strOfNums [(n : Int), 0]) l false) else (if (n : Int) = 34 then (laws_FnVtBytesHex.j1 k a1 (strOfNums [(n : Int), 0]) l false) else (laws_FnVtBytesHex.j1 k a1 (strOfNums [(n : Int), 0]) l ((n : Int) != 92)))) true := by
      by_cases h39 : (n : Int) = 39
      · exact Ev.congr (fun k => by rw [if_pos h39]) jf
      · by_cases h34 : (n : Int) = 34
        · exact Ev.congr (fun k => by rw [if_neg h39, if_pos h34]) jf
        · by_cases h92 : (n : Int) = 92
          · exact Ev.congr (fun k => by rw [if_neg h39, if_neg h34, bne_eq_false_iff_eq.mpr h92]) jf
          · exact Ev.congr (fun k => by rw [if_neg h39, if_neg h34, bne_iff_ne.mpr h92]) (jt (by omega))
    have hb := Ev.bind (f := fun k (_ : ByteArray) => if (n : Int) = 39 then (laws_FnVtBytesHex.j1 k a1 (strOfNums [(n : Int), 0]) l false) else (if (n : Int) = 34 then (laws_FnVtBytesHex.j1 k a1 (strOfNums [(n : Int), 0]) l false) else (laws_FnVtBytesHex.j1 k a1 (strOfNums [(n : Int), 0]) l ((n : Int) != 92)))) hh rest
    obtain ⟨K1, e1⟩ := hh
    obtain ⟨K2, e2⟩ := rest
    refine ⟨K1 + K2 + 1, fun k hk => ?_⟩
    obtain ⟨j, rfl⟩ : ∃ j, k = j + 1 := ⟨k - 1, by omega⟩
    have e1' : laws_vtHex.f j (IntKind.u64.wrap (n : Int)) 2 = some ⟨(h2 n).toArray⟩ := e1 j (by omega)
    have e2' := e2 j (by omega)
    simp only [laws_FnVtBytesHex.l0]
    have s3 : (⟨(o3 n).toArray⟩ : ByteArray).size = 3 := rfl
    have s2 : (⟨(h2 n).toArray⟩ : ByteArray).size = 2 := rfl
    have s4 : (⟨((h2 n).map upc).toArray⟩ : ByteArray).size = 2 := rfl
    have hup : spec_Upper.f ⟨(h2 n).toArray⟩ = some ⟨((h2 n).map upc).toArray⟩ := by
      unfold spec_Upper.f
      rw [if_pos (by rw [s2]; omega)]
    rw [if_neg (by rw [s3]; omega), e1', Option.bind_some, if_pos (by rw [s2]; omega), if_pos (by rw [ByteArray.size_append, s2]; show 4 + 2 + 1 ≤ _; omega), hup, Option.bind_some, if_pos (by rw [s4]; omega), if_pos (by rw [ByteArray.size_append, s4]; show 4 + 2 + 1 ≤ _; omega), if_pos (by rw [s3]; omega), if_pos (by rw [ByteArray.size_append, s3]; show 4 + 3 + 1 ≤ _; omega), Option.bind_some, ← hl]
    exact e2'
  obtain ⟨p, hp, he⟩ := o3_dig (n := n) (by omega)
  have hpr := pad_run (n : Int) a1 (strOfNums [(n : Int), 0]) (r := true) p ⟨(digs 8 n).toArray⟩ hp (by
    rw [show bl (⟨(digs 8 n).toArray⟩ : ByteArray) = digs 8 n from rfl, he]
    exact l0e)
  obtain ⟨k, hk⟩ := hpr.rounds
  refine ⟨k, ?_⟩
  unfold laws_FnVtBytesHex.f
  rw [wu64 (by omega) (by omega)]
  unfold strconv_FormatUint_8.f
  rw [if_pos (by omega), if_pos rfl, Option.bind_some]
  exact hk
end Go.Proofs.YtngbhojjjkdofaaDoor.Pure
