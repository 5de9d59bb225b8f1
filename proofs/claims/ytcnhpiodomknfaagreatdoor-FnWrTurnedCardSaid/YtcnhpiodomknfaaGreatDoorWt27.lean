-- A trial text of this session.
import Derived.Test.YtcnhpiodomknfaaGreatDoorWt24
import Derived.Test.YtcnhpiodomknfaaGreatDoorWt26
import Derived.Test.YtcnhpiodomknfaaGreatDoorMFnWrTurnedx14
namespace Go.Proofs.YtcnhpiodomknfaaGreatDoor.MFnWrTurned
open Go.RowKit Go.Proofs.YtcnhpiodomknfaaGreatDoorW.PrintWords Go.Proofs.YtcnhpiodomknfaaGreatDoorW.PrintLast Go.Proofs.YtcnhpiodomknfaaGreatDoorW.PrintMore
attribute [local go_sem] max2_int min2_int max_two min_two max_three min_three max_four min_four
set_option linter.unusedVariables false
set_option linter.unusedSimpArgs false

/-- What is written. -/
def st (k : Nat) (zs : List UInt8) (t : Bool) (ms : List Nat) : ByteArray := ⟨(bl t 4 (k * ms.length) ++ zs ++ ms.flatMap (bl t k)).toArray⟩
theorem flat_len3 (t : Bool) (k : Nat) (ms : List Nat) : (ms.flatMap (bl t k)).length = k * ms.length := by
  induction ms with
  | nil => simp
  | cons m ms ih => rw [List.flatMap_cons, List.length_append, bl_len, ih, List.length_cons, Nat.mul_add]; omega
theorem st_size (k : Nat) (zs : List UInt8) (t : Bool) (ms : List Nat) : (st k zs t ms).size = 4 + zs.length + k * ms.length := by
  simp only [st, ByteArray.size, List.size_toArray, List.length_append, bl_len, flat_len3]
theorem bl_turn (k m r : Nat) (h : r < k) : (bl true k m)[r]? = (bl false k m)[k - 1 - r]? := by
  have hl : (lb k m).length = k := by simp [lb]
  simp only [bl, if_true]
  rw [List.getElem?_reverse (by omega), hl]
  rfl
theorem flat_at (t : Bool) (k : Nat) (hk : 0 < k) : ∀ (ms : List Nat) (j : Nat), j < k * ms.length → (ms.flatMap (bl t k))[j]? = (bl t k (ms.getD (j / k) 0))[j % k]?
  | [], j, h => by simp at h
  | m :: ms, j, h => by
    rw [List.flatMap_cons]
    by_cases hj : j < k
    · rw [List.getElem?_append_left (by rw [bl_len]; exact hj), Nat.div_eq_of_lt hj, Nat.mod_eq_of_lt hj]
      rfl
    · have h2 : j - k < k * ms.length := by rw [List.length_cons, Nat.mul_add] at h; omega
      rw [List.getElem?_append_right (by rw [bl_len]; omega), bl_len, flat_at t k hk ms (j - k) h2]
      have e1 : j / k = (j - k) / k + 1 := by
        have : j = (j - k) + k := by omega
        rw [this, Nat.add_div_right _ hk]; simp
      have e2 : (j - k) % k = j % k := by
        have : j = (j - k) + k := by omega
        rw [this, Nat.add_mod_right]; simp
      rw [e1, e2]
      rfl
theorem st_get (k : Nat) (zs : List UInt8) (t : Bool) (ms : List Nat) (i : Nat) (h : i < (st k zs t ms).size) : some ((st k zs t ms)[i]'h) = (bl t 4 (k * ms.length) ++ zs ++ ms.flatMap (bl t k))[i]? := by
  have h2 : i < (bl t 4 (k * ms.length) ++ zs ++ ms.flatMap (bl t k)).length := by
    have := st_size k zs t ms
    simp only [List.length_append, bl_len, flat_len3]; omega
  rw [List.getElem?_eq_getElem h2]
  rfl
theorem st_1 (k : Nat) (zs : List UInt8) (ms : List Nat) (i : Nat) (hi : i < 4) (h1 : i < (st k zs true ms).size) (h2 : 3 - i < (st k zs false ms).size) : ((st k zs true ms)[i]'h1).toNat = ((st k zs false ms)[3 - i]'h2).toNat := by
  have e1 := st_get k zs true ms i h1
  have e2 := st_get k zs false ms (3 - i) h2
  rw [List.append_assoc, List.getElem?_append_left (by rw [bl_len]; omega), bl_turn _ _ _ hi] at e1
  rw [List.append_assoc, List.getElem?_append_left (by rw [bl_len]; omega)] at e2
  rw [show 4 - 1 - i = 3 - i from by omega, ← e2] at e1
  rw [Option.some.inj e1]
theorem st_2 (k : Nat) (hk : 0 < k) (zs : List UInt8) (ms : List Nat) (i hh : Nat) (hz : hh = 4 + zs.length) (hi0 : hh ≤ i) (hi : i < hh + k * ms.length) (h1 : i < (st k zs true ms).size) (h2 : 2 * (i - (i - hh) % k) + k - 1 - i < (st k zs false ms).size) : ((st k zs true ms)[i]'h1).toNat = ((st k zs false ms)[2 * (i - (i - hh) % k) + k - 1 - i]'h2).toNat := by
  obtain ⟨x, hx⟩ : ∃ x, 2 * (i - (i - hh) % k) + k - 1 - i = x := ⟨_, rfl⟩
  simp only [hx] at h2 ⊢
  obtain ⟨d, hd⟩ : ∃ d, i - hh = d := ⟨_, rfl⟩
  rw [hd] at hx
  have hr := Nat.mod_lt d hk
  have hq := Nat.div_add_mod d k
  obtain ⟨q, hq0⟩ : ∃ q, d / k = q := ⟨_, rfl⟩
  obtain ⟨r, hr0⟩ : ∃ r, d % k = r := ⟨_, rfl⟩
  rw [hr0] at hx hr hq
  rw [hq0] at hq
  obtain ⟨kq, hkq⟩ : ∃ kq, k * q = kq := ⟨_, rfl⟩
  rw [hkq] at hq
  have hql : kq + k ≤ k * ms.length := by
    have h3 : q < ms.length := by rw [← hq0]; exact Nat.div_lt_of_lt_mul (by omega)
    have h4 : k * (q + 1) ≤ k * ms.length := Nat.mul_le_mul_left k h3
    rw [Nat.mul_add, hkq] at h4
    omega
  have e1 := st_get k zs true ms i h1
  have e2 := st_get k zs false ms x h2
  have hl1 : (bl true 4 (k * ms.length) ++ zs).length = hh := by rw [List.length_append, bl_len]; omega
  have hl2 : (bl false 4 (k * ms.length) ++ zs).length = hh := by rw [List.length_append, bl_len]; omega
  rw [List.getElem?_append_right (by omega), hl1, hd, flat_at true k hk ms d (by omega), hq0, hr0, bl_turn _ _ _ hr] at e1
  have hxd : x - hh = kq + (k - 1 - r) := by omega
  rw [List.getElem?_append_right (by omega), hl2, hxd, flat_at false k hk ms _ (by omega)] at e2
  have f1 : (kq + (k - 1 - r)) / k = q := by rw [← hkq, Nat.mul_add_div hk, Nat.div_eq_of_lt (by omega)]; omega
  have f2 : (kq + (k - 1 - r)) % k = k - 1 - r := by rw [← hkq, Nat.mul_add_mod, Nat.mod_eq_of_lt (by omega)]
  rw [f1, f2, ← e1] at e2
  rw [Option.some.inj e2]
theorem wz1 (W : World) : Calls Tryz.prog 7 #[.int .i64 4, .int .i64 1] W fun e w' => e = .returned (.string ⟨#[]⟩) ∧ Below W.heap.size W w' :=
  (laws_wrZeros.calls 9 4 1 ⟨#[]⟩ W (by kernel_rfl)).mono fun e w' h => ⟨h.1, h.2.below⟩
theorem wz2 (W : World) : Calls Tryz.prog 7 #[.int .i64 4, .int .i64 2] W fun e w' => e = .returned (.string ⟨#[]⟩) ∧ Below W.heap.size W w' :=
  (laws_wrZeros.calls 9 4 2 ⟨#[]⟩ W (by kernel_rfl)).mono fun e w' h => ⟨h.1, h.2.below⟩
theorem wz4 (W : World) : Calls Tryz.prog 7 #[.int .i64 4, .int .i64 4] W fun e w' => e = .returned (.string ⟨#[]⟩) ∧ Below W.heap.size W w' :=
  (laws_wrZeros.calls 9 4 4 ⟨#[]⟩ W (by kernel_rfl)).mono fun e w' h => ⟨h.1, h.2.below⟩
theorem wz8 (W : World) : Calls Tryz.prog 7 #[.int .i64 4, .int .i64 8] W fun e w' => e = .returned (.string ⟨#[0, 0, 0, 0]⟩) ∧ Below W.heap.size W w' :=
  (laws_wrZeros.calls 9 4 8 ⟨#[0, 0, 0, 0]⟩ W (by kernel_rfl)).mono fun e w' h => ⟨h.1, h.2.below⟩

theorem law_y (a1 : Int) (hrem : a1.tmod 9 = 0) (A : Option Addr) (vs : List Nat) (cp : Nat) (w : World) (hn : vs.length ≤ 200) (hvs : ∀ v ∈ vs, v < 18446744073709551616) (hR : ReadsInt w .u64 A vs.length (vs.map fun v : Nat => (v : Int))) :
    Calls Tryz.prog 3 #[.slice A vs.length cp, .int .u8 a1] w fun e w' => e = .returned (.bool true) ∧ Below w.heap.size w w' := by
  refine law_gen 121 0 1 4 (fun m => (m : Int)) ⟨#[]⟩ (st 1 []) (by decide) (fun _ => rfl) (by decide) (by decide) rfl (by decide) (fun W => sz_y W) (fun v hv W => ?_) (fun t ms hm hl A W hC => ?_) (fun W => wz1 W) (fun t ms _ => st_size 1 [] t ms) (fun ms _ _ i hi h1 h2 => st_1 1 [] ms i hi h1 h2) (fun ms _ i h0 hi h1 h2 => st_2 1 (by decide) [] ms i 4 rfl h0 hi h1 h2) a1 hrem A vs cp w hn hvs hR
  · exact wn1 121 _ (v % 256 ^ 1) v hv (by rfl) sz_y (fun W => wi_y (v % 256 ^ 1) (Nat.mod_lt _ (by decide)) W) W
  · have hm2 : ∀ m ∈ ms, m < 256 := fun m h => by have := hm m h; simpa using this
    cases t
    · exact we_y68 ms hm2 hl A 1 (by decide) W hC
    · exact we_y67 ms hm2 hl A 1 (by decide) W hC
theorem law_n (a1 : Int) (hrem : a1.tmod 9 = 1) (A : Option Addr) (vs : List Nat) (cp : Nat) (w : World) (hn : vs.length ≤ 200) (hvs : ∀ v ∈ vs, v < 18446744073709551616) (hR : ReadsInt w .u64 A vs.length (vs.map fun v : Nat => (v : Int))) :
    Calls Tryz.prog 3 #[.slice A vs.length cp, .int .u8 a1] w fun e w' => e = .returned (.bool true) ∧ Below w.heap.size w w' := by
  refine law_gen 110 1 2 4 (fun m => IntKind.u64.wrap (sx 2 m)) ⟨#[]⟩ (st 2 []) (by decide) (fun _ => rfl) (by decide) (by decide) rfl (by decide) (fun W => sz_n W) (fun v hv W => ?_) (fun t ms hm hl A W hC => ?_) (fun W => wz2 W) (fun t ms _ => st_size 2 [] t ms) (fun ms _ _ i hi h1 h2 => st_1 2 [] ms i hi h1 h2) (fun ms _ i h0 hi h1 h2 => st_2 2 (by decide) [] ms i 4 rfl h0 hi h1 h2) a1 hrem A vs cp w hn hvs hR
  · exact wn2 110 _ (v % 256 ^ 2) v hv (by rfl) sz_n (fun W => wi_n (v % 256 ^ 2) (Nat.mod_lt _ (by decide)) W) W
  · have hm2 : ∀ m ∈ ms, m < 65536 := fun m h => by have := hm m h; simpa using this
    cases t
    · exact we_n68 ms hm2 hl A 1 (by decide) W hC
    · exact we_n67 ms hm2 hl A 1 (by decide) W hC
theorem law_q (a1 : Int) (hrem : a1.tmod 9 = 2) (A : Option Addr) (vs : List Nat) (cp : Nat) (w : World) (hn : vs.length ≤ 200) (hvs : ∀ v ∈ vs, v < 18446744073709551616) (hR : ReadsInt w .u64 A vs.length (vs.map fun v : Nat => (v : Int))) :
    Calls Tryz.prog 3 #[.slice A vs.length cp, .int .u8 a1] w fun e w' => e = .returned (.bool true) ∧ Below w.heap.size w w' := by
  refine law_gen 113 2 2 4 (fun m => (m : Int)) ⟨#[]⟩ (st 2 []) (by decide) (fun _ => rfl) (by decide) (by decide) rfl (by decide) (fun W => sz_q W) (fun v hv W => ?_) (fun t ms hm hl A W hC => ?_) (fun W => wz2 W) (fun t ms _ => st_size 2 [] t ms) (fun ms _ _ i hi h1 h2 => st_1 2 [] ms i hi h1 h2) (fun ms _ i h0 hi h1 h2 => st_2 2 (by decide) [] ms i 4 rfl h0 hi h1 h2) a1 hrem A vs cp w hn hvs hR
  · exact wn2 113 _ (v % 256 ^ 2) v hv (by rfl) sz_q (fun W => wi_q (v % 256 ^ 2) (Nat.mod_lt _ (by decide)) W) W
  · have hm2 : ∀ m ∈ ms, m < 65536 := fun m h => by have := hm m h; simpa using this
    cases t
    · exact we_q68 ms hm2 hl A 1 (by decide) W hC
    · exact we_q67 ms hm2 hl A 1 (by decide) W hC
theorem law_i (a1 : Int) (hrem : a1.tmod 9 = 3) (A : Option Addr) (vs : List Nat) (cp : Nat) (w : World) (hn : vs.length ≤ 200) (hvs : ∀ v ∈ vs, v < 18446744073709551616) (hR : ReadsInt w .u64 A vs.length (vs.map fun v : Nat => (v : Int))) :
    Calls Tryz.prog 3 #[.slice A vs.length cp, .int .u8 a1] w fun e w' => e = .returned (.bool true) ∧ Below w.heap.size w w' := by
  refine law_gen 105 3 4 4 (fun m => IntKind.u64.wrap (sx 4 m)) ⟨#[]⟩ (st 4 []) (by decide) (fun _ => rfl) (by decide) (by decide) rfl (by decide) (fun W => sz_i W) (fun v hv W => ?_) (fun t ms hm hl A W hC => ?_) (fun W => wz4 W) (fun t ms _ => st_size 4 [] t ms) (fun ms _ _ i hi h1 h2 => st_1 4 [] ms i hi h1 h2) (fun ms _ i h0 hi h1 h2 => st_2 4 (by decide) [] ms i 4 rfl h0 hi h1 h2) a1 hrem A vs cp w hn hvs hR
  · exact wn4 105 _ (v % 256 ^ 4) v hv (by rfl) sz_i (fun W => wi_i (v % 256 ^ 4) (Nat.mod_lt _ (by decide)) W) W
  · have hm2 : ∀ m ∈ ms, m < 4294967296 := fun m h => by have := hm m h; simpa using this
    cases t
    · exact we_i68 ms hm2 hl A 1 (by decide) W hC
    · exact we_i67 ms hm2 hl A 1 (by decide) W hC
theorem law_u (a1 : Int) (hrem : a1.tmod 9 = 4) (A : Option Addr) (vs : List Nat) (cp : Nat) (w : World) (hn : vs.length ≤ 200) (hvs : ∀ v ∈ vs, v < 18446744073709551616) (hR : ReadsInt w .u64 A vs.length (vs.map fun v : Nat => (v : Int))) :
    Calls Tryz.prog 3 #[.slice A vs.length cp, .int .u8 a1] w fun e w' => e = .returned (.bool true) ∧ Below w.heap.size w w' := by
  refine law_gen 117 4 4 4 (fun m => (m : Int)) ⟨#[]⟩ (st 4 []) (by decide) (fun _ => rfl) (by decide) (by decide) rfl (by decide) (fun W => sz_u W) (fun v hv W => ?_) (fun t ms hm hl A W hC => ?_) (fun W => wz4 W) (fun t ms _ => st_size 4 [] t ms) (fun ms _ _ i hi h1 h2 => st_1 4 [] ms i hi h1 h2) (fun ms _ i h0 hi h1 h2 => st_2 4 (by decide) [] ms i 4 rfl h0 hi h1 h2) a1 hrem A vs cp w hn hvs hR
  · exact wn4 117 _ (v % 256 ^ 4) v hv (by rfl) sz_u (fun W => wi_u (v % 256 ^ 4) (Nat.mod_lt _ (by decide)) W) W
  · have hm2 : ∀ m ∈ ms, m < 4294967296 := fun m h => by have := hm m h; simpa using this
    cases t
    · exact we_u68 ms hm2 hl A 1 (by decide) W hC
    · exact we_u67 ms hm2 hl A 1 (by decide) W hC
theorem law_x (a1 : Int) (hrem : a1.tmod 9 = 5) (A : Option Addr) (vs : List Nat) (cp : Nat) (w : World) (hn : vs.length ≤ 200) (hvs : ∀ v ∈ vs, v < 18446744073709551616) (hR : ReadsInt w .u64 A vs.length (vs.map fun v : Nat => (v : Int))) :
    Calls Tryz.prog 3 #[.slice A vs.length cp, .int .u8 a1] w fun e w' => e = .returned (.bool true) ∧ Below w.heap.size w w' := by
  refine law_gen 120 5 8 8 (fun m => IntKind.u64.wrap (sx 8 m)) ⟨#[0, 0, 0, 0]⟩ (st 8 [0, 0, 0, 0]) (by decide) (fun _ => rfl) (by decide) (by decide) rfl (by decide) (fun W => sz_x W) (fun v hv W => ?_) (fun t ms hm hl A W hC => ?_) (fun W => wz8 W) (fun t ms _ => st_size 8 [0, 0, 0, 0] t ms) (fun ms _ _ i hi h1 h2 => st_1 8 [0, 0, 0, 0] ms i hi h1 h2) (fun ms _ i h0 hi h1 h2 => st_2 8 (by decide) [0, 0, 0, 0] ms i 8 rfl h0 hi h1 h2) a1 hrem A vs cp w hn hvs hR
  · exact wn8 120 _ (v % 256 ^ 8) v hv (by rfl) sz_x (fun W => wi_x (v % 256 ^ 8) (Nat.mod_lt _ (by decide)) W) W
  · have hm2 : ∀ m ∈ ms, m < 18446744073709551616 := fun m h => by have := hm m h; simpa using this
    cases t
    · exact we_x68 ms hm2 hl A 1 (by decide) W hC
    · exact we_x67 ms hm2 hl A 1 (by decide) W hC
theorem law_t (a1 : Int) (hrem : a1.tmod 9 = 6) (A : Option Addr) (vs : List Nat) (cp : Nat) (w : World) (hn : vs.length ≤ 200) (hvs : ∀ v ∈ vs, v < 18446744073709551616) (hR : ReadsInt w .u64 A vs.length (vs.map fun v : Nat => (v : Int))) :
    Calls Tryz.prog 3 #[.slice A vs.length cp, .int .u8 a1] w fun e w' => e = .returned (.bool true) ∧ Below w.heap.size w w' := by
  refine law_gen 116 6 8 8 (fun m => (m : Int)) ⟨#[0, 0, 0, 0]⟩ (st 8 [0, 0, 0, 0]) (by decide) (fun _ => rfl) (by decide) (by decide) rfl (by decide) (fun W => sz_t W) (fun v hv W => ?_) (fun t ms hm hl A W hC => ?_) (fun W => wz8 W) (fun t ms _ => st_size 8 [0, 0, 0, 0] t ms) (fun ms _ _ i hi h1 h2 => st_1 8 [0, 0, 0, 0] ms i hi h1 h2) (fun ms _ i h0 hi h1 h2 => st_2 8 (by decide) [0, 0, 0, 0] ms i 8 rfl h0 hi h1 h2) a1 hrem A vs cp w hn hvs hR
  · exact wn8 116 _ (v % 256 ^ 8) v hv (by rfl) sz_t (fun W => wi_t (v % 256 ^ 8) (Nat.mod_lt _ (by decide)) W) W
  · have hm2 : ∀ m ∈ ms, m < 18446744073709551616 := fun m h => by have := hm m h; simpa using this
    cases t
    · exact we_t68 ms hm2 hl A 1 (by decide) W hC
    · exact we_t67 ms hm2 hl A 1 (by decide) W hC
theorem law_d (a1 : Int) (hrem : a1.tmod 9 = 7) (A : Option Addr) (vs : List Nat) (cp : Nat) (w : World) (hn : vs.length ≤ 200) (hvs : ∀ v ∈ vs, v < 18446744073709551616) (hR : ReadsInt w .u64 A vs.length (vs.map fun v : Nat => (v : Int))) :
    Calls Tryz.prog 3 #[.slice A vs.length cp, .int .u8 a1] w fun e w' => e = .returned (.bool true) ∧ Below w.heap.size w w' := by
  refine law_gen 100 7 8 8 (fun m => (m : Int)) ⟨#[0, 0, 0, 0]⟩ (st 8 [0, 0, 0, 0]) (by decide) (fun _ => rfl) (by decide) (by decide) rfl (by decide) (fun W => sz_d W) (fun v hv W => ?_) (fun t ms hm hl A W hC => ?_) (fun W => wz8 W) (fun t ms _ => st_size 8 [0, 0, 0, 0] t ms) (fun ms _ _ i hi h1 h2 => st_1 8 [0, 0, 0, 0] ms i hi h1 h2) (fun ms _ i h0 hi h1 h2 => st_2 8 (by decide) [0, 0, 0, 0] ms i 8 rfl h0 hi h1 h2) a1 hrem A vs cp w hn hvs hR
  · exact wn8 100 _ (v % 256 ^ 8) v hv (by rfl) sz_d (fun W => wi_d (v % 256 ^ 8) (Nat.mod_lt _ (by decide)) W) W
  · have hm2 : ∀ m ∈ ms, m < 18446744073709551616 := fun m h => by have := hm m h; simpa using this
    cases t
    · exact we_d68 ms hm2 hl A 1 (by decide) W hC
    · exact we_d67 ms hm2 hl A 1 (by decide) W hC
theorem law_h (a1 : Int) (hrem : a1.tmod 9 = 8) (A : Option Addr) (vs : List Nat) (cp : Nat) (w : World) (hn : vs.length ≤ 200) (hvs : ∀ v ∈ vs, v < 18446744073709551616) (hR : ReadsInt w .u64 A vs.length (vs.map fun v : Nat => (v : Int))) :
    Calls Tryz.prog 3 #[.slice A vs.length cp, .int .u8 a1] w fun e w' => e = .returned (.bool true) ∧ Below w.heap.size w w' := by
  refine law_gen 104 8 4 4 (fun m => (m : Int)) ⟨#[]⟩ (st 4 []) (by decide) (fun _ => rfl) (by decide) (by decide) rfl (by decide) (fun W => sz_h W) (fun v hv W => ?_) (fun t ms hm hl A W hC => ?_) (fun W => wz4 W) (fun t ms _ => st_size 4 [] t ms) (fun ms _ _ i hi h1 h2 => st_1 4 [] ms i hi h1 h2) (fun ms _ i h0 hi h1 h2 => st_2 4 (by decide) [] ms i 4 rfl h0 hi h1 h2) a1 hrem A vs cp w hn hvs hR
  · exact wn4 104 _ (v % 256 ^ 4) v hv (by rfl) sz_h (fun W => wi_h (v % 256 ^ 4) (Nat.mod_lt _ (by decide)) W) W
  · have hm2 : ∀ m ∈ ms, m < 4294967296 := fun m h => by have := hm m h; simpa using this
    cases t
    · exact we_h68 ms hm2 hl A 1 (by decide) W hC
    · exact we_h67 ms hm2 hl A 1 (by decide) W hC
/-- The law, over more than 200 numbers true at once. -/
theorem law_long (a1 : Int) (A : Option Addr) (n cp : Nat) (w : World) (hn : 200 < n) (hn2 : n ≤ 9223372036854775807) :
    Calls Tryz.prog 3 #[.slice A n cp, .int .u8 a1] w fun e w' => e = .returned (.bool true) ∧ Below w.heap.size w w' := by
  have hd2 : decide ((200 : Int) < (n : Int)) = true := by simp; omega
  by_cases h : 2147483647 < n
  · have hd1 : decide ((2147483647 : Int) < (n : Int)) = true := by simp; omega
    go_enter Tryz.func3, Tryz.ntmps3
    go_wp2
    go_ret
    exact ⟨rfl, Below.refl _ _⟩
  · have hd1 : decide ((2147483647 : Int) < (n : Int)) = false := by simp; omega
    go_enter Tryz.func3, Tryz.ntmps3
    go_wp2
    go_ret
    exact ⟨rfl, Below.refl _ _⟩
theorem law_walk (a0 : List Int) (a1 : Int) (A : Option Addr) (cp : Nat) (w : World) (h1 : 0 ≤ a1) (hvs : ∀ v ∈ a0, 0 ≤ v ∧ v < 18446744073709551616) (hR : ReadsInt w .u64 A a0.length a0) :
    Calls Tryz.prog 3 #[.slice A a0.length cp, .int .u8 a1] w fun e w' => e = .returned (.bool true) ∧ Below w.heap.size w w' := by
  by_cases hn : a0.length ≤ 200
  · obtain ⟨vs, rfl⟩ : ∃ vs : List Nat, a0 = vs.map fun v : Nat => (v : Int) := ⟨a0.map Int.toNat, by
      rw [List.map_map]
      conv => lhs; rw [← List.map_id a0]
      exact List.map_congr_left fun v hv => by have := hvs v hv; simp; omega⟩
    have hv2 : ∀ v ∈ vs, v < 18446744073709551616 := fun v hv => by have := hvs (v : Int) (List.mem_map.2 ⟨v, hv, rfl⟩); omega
    rw [List.length_map] at hn hR ⊢
    have h9 : a1.tmod 9 = 0 ∨ a1.tmod 9 = 1 ∨ a1.tmod 9 = 2 ∨ a1.tmod 9 = 3 ∨ a1.tmod 9 = 4 ∨ a1.tmod 9 = 5 ∨ a1.tmod 9 = 6 ∨ a1.tmod 9 = 7 ∨ a1.tmod 9 = 8 := by
      rw [Int.tmod_eq_emod_of_nonneg h1]; omega
    rcases h9 with h | h | h | h | h | h | h | h | h
    · exact law_y a1 h A vs cp w hn hv2 hR
    · exact law_n a1 h A vs cp w hn hv2 hR
    · exact law_q a1 h A vs cp w hn hv2 hR
    · exact law_i a1 h A vs cp w hn hv2 hR
    · exact law_u a1 h A vs cp w hn hv2 hR
    · exact law_x a1 h A vs cp w hn hv2 hR
    · exact law_t a1 h A vs cp w hn hv2 hR
    · exact law_d a1 h A vs cp w hn hv2 hR
    · exact law_h a1 h A vs cp w hn hv2 hR
  · exact law_long a1 A a0.length cp w (by omega) hR.2.1
def ReadsU64 (w : World) (A : Option Addr) (n : Nat) (xs : List Int) : Prop := ReadsInt w .u64 A n xs
theorem readsU64_nil (w : World) : ReadsU64 w none 0 [] := ⟨rfl, by omega, fun h => by omega⟩
theorem readsU64_take (w : World) (x : Addr) (n : Nat) (zs : List Int) (hn : n ≤ zs.length) (hm : n ≤ 9223372036854775807) (hc : ∀ i, i < zs.length → w.cell? (x.add i) = some (.int .u64 (zs.getD i 0))) : ReadsU64 w (some x) n (zs.take n) := by
  refine ⟨by rw [List.length_take]; omega, hm, fun _ => ⟨x, rfl, fun j hj => ?_⟩⟩
  rw [hc j (by omega), List.getD_eq_getElem?_getD, List.getD_eq_getElem?_getD, List.getElem?_take_of_lt hj]
theorem law_walk2 (xs : List Int) (n : Nat) (a1 : Int) (A : Option Addr) (cp : Nat) (w : World) (hx : xs.length = n) (h1 : 0 ≤ a1) (hvs : ∀ v ∈ xs, 0 ≤ v ∧ v < 18446744073709551616) (hR : ReadsU64 w A n xs) :
    Calls Tryz.prog 3 #[.slice A n cp, .int .u8 a1] w fun e w' => e = .returned (.bool true) ∧ Below w.heap.size w w' := by
  subst hx
  exact law_walk xs a1 A cp w h1 hvs hR


end Go.Proofs.YtcnhpiodomknfaaGreatDoor.MFnWrTurned
