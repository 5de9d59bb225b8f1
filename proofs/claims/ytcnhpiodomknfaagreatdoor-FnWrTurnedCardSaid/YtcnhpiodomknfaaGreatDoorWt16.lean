-- A trial text of this session.
import Derived.Test.YtcnhpiodomknfaaGreatDoorWt15
namespace Go.Proofs.YtcnhpiodomknfaaGreatDoor.MFnWrTurned
open Go.RowKit Go.Proofs.YtcnhpiodomknfaaGreatDoorW.PrintWords Go.Proofs.YtcnhpiodomknfaaGreatDoorW.PrintLast Go.Proofs.YtcnhpiodomknfaaGreatDoorW.PrintMore
attribute [local go_sem] max2_int min2_int max_two min_two max_three min_three max_four min_four
set_option linter.unusedVariables false
set_option linter.unusedSimpArgs false

attribute [local go_sem] as2_2 as2_4 as2_5 as2_21 as2_25 as2_43 as2_87 as2_90 as2_121 as2_130 as2_131 as2_132 as5_2 as5_5 as5_21 as5_25 as5_43 as5_87 as5_90 as5_91 as5_137 as21_4 as21_5 as21_21 as21_25 as21_43 as21_87 as21_90 as21_121 as21_130 as21_131 as21_132 as25_2 as25_4 as25_5 as25_21 as25_25 as25_43 as25_87 as25_90 as25_130 as25_131 as25_132 as25_137 as43_4 as43_5 as43_25 as43_43 as43_87 as43_90 as43_121 as43_130 as43_131 as43_132 as87_2 as87_4 as87_5 as87_21 as87_43 as87_87 as87_90 as87_130 as87_131 as87_132 as87_137 as90_2 as90_4 as90_5 as90_21 as90_43 as90_90 as90_130 as90_131 as90_132 as90_137 as91_2 as91_4 as91_5 as91_21 as91_25 as91_43 as91_87 as91_90 as91_91 as91_121 as91_130 as91_131 as91_132 as91_137 as121_2 as121_4 as121_5 as121_9 as121_21 as121_25 as121_43 as121_87 as121_90 as121_91 as121_95 as121_103 as121_105 as121_121 as121_130 as121_131 as121_132 as121_137 as127_2 as127_4 as127_5 as127_9 as127_21 as127_24 as127_25 as127_43 as127_55 as127_87 as127_90 as127_91 as127_95 as127_103 as127_105 as127_121 as127_127 as127_130 as127_131 as127_132 as127_137 as127_146 as91_91f
theorem sx_n (m : Nat) (h : m < 65536) : -32768 ≤ sx 2 m ∧ sx 2 m < 32768 ∧ IntKind.u16.wrap (sx 2 m) = (m : Int) := by
  have h1 : (2 : Nat) ^ (8 * 2 - 1) = 32768 := by decide
  have h2 : (2 : Int) ^ (8 * 2) = 65536 := by decide
  unfold sx
  rw [h1, h2]
  simp only [IntKind.wrap, IntKind.bits, IntKind.signed]
  split <;> simp <;> omega
theorem sx_i (m : Nat) (h : m < 4294967296) : -2147483648 ≤ sx 4 m ∧ sx 4 m < 2147483648 ∧ IntKind.u32.wrap (sx 4 m) = (m : Int) := by
  have h1 : (2 : Nat) ^ (8 * 4 - 1) = 2147483648 := by decide
  have h2 : (2 : Int) ^ (8 * 4) = 4294967296 := by decide
  unfold sx
  rw [h1, h2]
  simp only [IntKind.wrap, IntKind.bits, IntKind.signed]
  split <;> simp <;> omega
theorem sx_x (m : Nat) (h : m < 18446744073709551616) : -9223372036854775808 ≤ sx 8 m ∧ sx 8 m < 9223372036854775808 ∧ IntKind.u64.wrap (sx 8 m) = (m : Int) := by
  have h1 : (2 : Nat) ^ (8 * 8 - 1) = 9223372036854775808 := by decide
  have h2 : (2 : Int) ^ (8 * 8) = 18446744073709551616 := by decide
  unfold sx
  rw [h1, h2]
  simp only [IntKind.wrap, IntKind.bits, IntKind.signed]
  split <;> simp <;> omega
theorem bl1s (big : Bool) (m : Nat) (h : m < 256) : Lib.byteCells (bl big 1 m) = [.int .u8 (m : Int)] := by
  cases big
  · rw [bl1f, Int.emod_eq_of_lt (by omega) (by omega)]
  · rw [bl1t, Int.emod_eq_of_lt (by omega) (by omega)]
theorem ag8 (hdr : List UInt8) (hh : hdr.length = 4) (ord : Value) (b e : Nat) (hbe : b < e) (W : World) (g : Nat) (hO : Ob W b g (Lib.byteCells hdr)) (he : W.heap[e]? = some (.cells #[.iface 50 (.pointer (some ⟨b, 0, none⟩)), .slice none 0 0, ord, .int .i64 (4)] 65 (0, 0))) (F : List (Nat × Obj)) (hF : Fs W F) (hFn : ∀ p ∈ F, p.1 ≠ g ∧ p.1 ≠ b ∧ p.1 ≠ e) (heg : e ≠ g) :
    Calls Tryz.prog 22 #[.pointer (some ⟨e, 0, none⟩), .int .i64 8] W fun e' w' => e' = .returned (.tuple #[]) ∧ Ob w' b g (Lib.byteCells (hdr ++ [0, 0, 0, 0])) ∧ w'.heap[e]? = some (.cells #[.iface 50 (.pointer (some ⟨b, 0, none⟩)), .slice none 0 0, ord, .int .i64 (4 + ((4 : Nat) : Int))] 65 (0, 0)) ∧ Fs w' F ∧ Below b W w' := by
  have hch : (Lib.byteCells hdr).length = 4 := by rw [Lib.byteCells_length, hh]
  have hbW : b < W.heap.size := hO.isb.lt
  have heW : e < W.heap.size := (Array.getElem?_eq_some_iff.1 he).1
  have hz : Lib.byteCells [0, 0, 0, 0] = [.int .u8 0, .int .u8 0, .int .u8 0, .int .u8 0] := by simp [Lib.byteCells]
  refine (al4_calls W e b _ _ he (fun w' => Ob w' b g (Lib.byteCells (hdr ++ [0, 0, 0, 0])) ∧ w'.heap[e]? = some (.cells #[.iface 50 (.pointer (some ⟨b, 0, none⟩)), .slice none 0 0, ord, .int .i64 (4)] 65 (0, 0)) ∧ Fs w' F ∧ Below b W w') (fun w' h => h.2.1) ?_).mono ?_
  · intro W1 hB a T ha hc
    obtain ⟨cur, lr, o1, o2, o3, o4, o5, o6⟩ := hO
    have hgW : g < W.heap.size := (Array.getElem?_eq_some_iff.1 o2).1
    rw [hch] at o1 o4
    refine (wr_room W1 b g 4 64 a 4 cur T lr [.int .u8 0, .int .u8 0, .int .u8 0, .int .u8 0] (up_heap2 hB o1) (up_heap2 hB o2) (by omega) o3 (by omega) (by omega) (by omega) (by omega) hc rfl (by rw [← hz]; exact byte_one _)).mono ?_
    rintro e1 w' ⟨he1, q1, q2, q3, q4, q5, q6, q7⟩
    obtain ⟨s1, s2⟩ := spl_take (cur := cur) (l := 4) (n := 4) (cs := [.int .u8 0, .int .u8 0, .int .u8 0, .int .u8 0]) (by omega) rfl (by omega) _ o4
    have hap : Lib.byteCells (hdr ++ [0, 0, 0, 0]) = Lib.byteCells hdr ++ [.int .u8 0, .int .u8 0, .int .u8 0, .int .u8 0] := by rw [← hz]; simp [Lib.byteCells]
    have hln : (Lib.byteCells (hdr ++ [0, 0, 0, 0])).length = 8 := by rw [Lib.byteCells_length, List.length_append, hh]; rfl
    refine ⟨he1, ⟨_, 0, ?_, q2, s2.trans o3, ?_, by rw [hln]; omega, o6⟩, ?_, ?_, ?_⟩
    · rw [hln]; exact q1
    · rw [hln, hap]; exact s1
    · exact (q3 e (by omega) heg).trans (up_heap2 hB he)
    · exact fun p hp => (q3 p.1 (hFn p hp).2.1 (hFn p hp).1).trans ((hF.below hB) p hp)
    · have := hB.size
      exact ⟨q4.trans hB.os, q5.trans hB.tape, q6.trans hB.output, by omega, fun k hk => (q3 k (by omega) (by omega)).trans (hB.block k (by omega))⟩
  · rintro e' w' ⟨rfl, w1, ⟨h1, h2, h3, h4⟩, rfl⟩
    have hE := heap_setCell_same w1 e 3 _ 65 (.int .i64 8) h2
    refine ⟨rfl, h1.keep (Below.heap_setCell w1 ⟨e, 3, none⟩ _ b (by show b ≠ e; omega)) (Below.heap_setCell w1 ⟨e, 3, none⟩ _ g (Ne.symm heg)), hE, ?_, h4.setCell (by show b ≤ e; omega) _⟩
    exact fun p hp => (Below.heap_setCell w1 ⟨e, 3, none⟩ _ p.1 (hFn p hp).2.2).trans (h3 p hp)
set_option maxRecDepth 100000 in
set_option maxHeartbeats 4000000 in
theorem li_y67 (ms : List Nat) (hms : ∀ m ∈ ms, m < 256) (hlen : ms.length ≤ 200) (b e L cap : Nat) (A : Option Nat) (hbe : b < e) (w : World) (zb : Nat) (zo : Array Value) (zT : TypeId) (hzT : zT ≠ 5) (hzb : zb ≠ b ∧ zb ≠ e) (hzo : w.heap[zb]? = some (.cells zo zT (0, 0))) (hL : Ls w L ⟨#[121]⟩ A cap (ms.map fun m : Nat => .iface 5 (.int .u8 (m : Int)))) (he : w.heap[e]? = some (.cells #[.iface 50 (.pointer (some ⟨b, 0, none⟩)), .slice none 0 0, .iface 67 (.agg #[]), .int .i64 (0)] 65 (0, 0))) (lr : Int) (hb : w.heap[b]? = some (.cells #[.slice none 0 0, .int .i64 0, .int .i8 lr] 47 (0, 0))) :
    Calls Tryz.prog 19 #[.pointer (some ⟨e, 0, none⟩), .agg #[.iface 127 (.pointer (some ⟨L, 0, none⟩)), .string ⟨#[91, 121]⟩], .int .i64 0] w fun e' w' => e' = .returned (.tuple #[]) ∧ Lib.IsBuffer 47 5 b b (Lib.byteCells (bl true 4 (1 * ms.length) ++ [] ++ ms.flatMap (bl true 1))) w' ∧ Below b w w' ∧ w'.heap[zb]? = some (.cells zo zT (0, 0)) := by
  have hf : (ms.flatMap (bl true 1)).length = 1 * ms.length := by have := flat_len (bl_len true 1) ms ms.length (Nat.le_refl _); rwa [List.take_length] at this
  rw [← hf]
  refine li 121 1 0 ⟨by omega, by omega⟩ (by omega) (by omega) ms _ (fun _ => rfl) (bl true 1) (bl_len _ _) hlen (bl true 4 (ms.flatMap (bl true 1)).length) [] (bl_len _ _ _) (by simp) (.iface 67 (.agg #[])) (.inl rfl) b e L cap A hbe w zb zo zT hzT hzb hzo hL he lr hb al_ly (vk_ly _ rfl)
    (fun W h => align0_calls W e _ _ _ 0 4 h (by omega) (by omega) (by omega) (by omega) (by omega)) (fun W h => pad0_calls W e _ _ _ 0 0 4 h (by omega) (by omega) (by omega) (by omega) (by omega) (by omega) (by omega)) (fun W h => (pad0_calls W e _ _ _ 0 4 1 h (by omega) (by omega) (by omega) (by omega) (by omega) (by omega) (by omega)).mono (fun _ _ h => h)) el_y al_y ?_ ?_ ?_ ?_
  · exact fun W g hO hE F hF _ _ => (align0_calls W e _ _ _ 4 1 hE (by omega) (by omega) (by omega) (by omega) (by omega)).mono (by rintro e' w' ⟨rfl, rfl⟩; exact ⟨rfl, by rw [List.append_nil]; exact hO, hE, hF, Below.refl _ _⟩)
  · intro W Q hE hQ hW
    refine (en_u67 (ms.flatMap (bl true 1)).length (by omega) 0 (by omega) (by omega) W e b 0 hE (by omega) (by omega) (by omega) Q hQ (fun W1 hB a T ha hc => hW W1 hB a T ha (by rw [bl4t]; exact hc))).mono ?_
    rintro e' w' ⟨h1, w1, h2, h3⟩
    exact ⟨h1, w1, h2, h3⟩
  · exact fun W h i m hi => idx_y W L _ A cap _ h i (.int .u8 (m : Int)) (by rw [List.getElem?_map, hi]; rfl) (by rw [List.length_map]; omega)
  · intro bi ei m hm W pos hp hr Q hE hQ hW
    exact en_y67 m (hms m hm) 1 (by omega) (by omega) W ei bi (pos : Int) hE (by omega) (by omega) (by omega) Q hQ (fun W1 hB a T ha hc => hW W1 hB a T ha (by rw [bl1s _ m (hms m hm)]; exact hc))
set_option maxRecDepth 100000 in
set_option maxHeartbeats 4000000 in
theorem li_y68 (ms : List Nat) (hms : ∀ m ∈ ms, m < 256) (hlen : ms.length ≤ 200) (b e L cap : Nat) (A : Option Nat) (hbe : b < e) (w : World) (zb : Nat) (zo : Array Value) (zT : TypeId) (hzT : zT ≠ 5) (hzb : zb ≠ b ∧ zb ≠ e) (hzo : w.heap[zb]? = some (.cells zo zT (0, 0))) (hL : Ls w L ⟨#[121]⟩ A cap (ms.map fun m : Nat => .iface 5 (.int .u8 (m : Int)))) (he : w.heap[e]? = some (.cells #[.iface 50 (.pointer (some ⟨b, 0, none⟩)), .slice none 0 0, .iface 68 (.agg #[]), .int .i64 (0)] 65 (0, 0))) (lr : Int) (hb : w.heap[b]? = some (.cells #[.slice none 0 0, .int .i64 0, .int .i8 lr] 47 (0, 0))) :
    Calls Tryz.prog 19 #[.pointer (some ⟨e, 0, none⟩), .agg #[.iface 127 (.pointer (some ⟨L, 0, none⟩)), .string ⟨#[91, 121]⟩], .int .i64 0] w fun e' w' => e' = .returned (.tuple #[]) ∧ Lib.IsBuffer 47 5 b b (Lib.byteCells (bl false 4 (1 * ms.length) ++ [] ++ ms.flatMap (bl false 1))) w' ∧ Below b w w' ∧ w'.heap[zb]? = some (.cells zo zT (0, 0)) := by
  have hf : (ms.flatMap (bl false 1)).length = 1 * ms.length := by have := flat_len (bl_len false 1) ms ms.length (Nat.le_refl _); rwa [List.take_length] at this
  rw [← hf]
  refine li 121 1 0 ⟨by omega, by omega⟩ (by omega) (by omega) ms _ (fun _ => rfl) (bl false 1) (bl_len _ _) hlen (bl false 4 (ms.flatMap (bl false 1)).length) [] (bl_len _ _ _) (by simp) (.iface 68 (.agg #[])) (.inr rfl) b e L cap A hbe w zb zo zT hzT hzb hzo hL he lr hb al_ly (vk_ly _ rfl)
    (fun W h => align0_calls W e _ _ _ 0 4 h (by omega) (by omega) (by omega) (by omega) (by omega)) (fun W h => pad0_calls W e _ _ _ 0 0 4 h (by omega) (by omega) (by omega) (by omega) (by omega) (by omega) (by omega)) (fun W h => (pad0_calls W e _ _ _ 0 4 1 h (by omega) (by omega) (by omega) (by omega) (by omega) (by omega) (by omega)).mono (fun _ _ h => h)) el_y al_y ?_ ?_ ?_ ?_
  · exact fun W g hO hE F hF _ _ => (align0_calls W e _ _ _ 4 1 hE (by omega) (by omega) (by omega) (by omega) (by omega)).mono (by rintro e' w' ⟨rfl, rfl⟩; exact ⟨rfl, by rw [List.append_nil]; exact hO, hE, hF, Below.refl _ _⟩)
  · intro W Q hE hQ hW
    refine (en_u68 (ms.flatMap (bl false 1)).length (by omega) 0 (by omega) (by omega) W e b 0 hE (by omega) (by omega) (by omega) Q hQ (fun W1 hB a T ha hc => hW W1 hB a T ha (by rw [bl4f]; exact hc))).mono ?_
    rintro e' w' ⟨h1, w1, h2, h3⟩
    exact ⟨h1, w1, h2, h3⟩
  · exact fun W h i m hi => idx_y W L _ A cap _ h i (.int .u8 (m : Int)) (by rw [List.getElem?_map, hi]; rfl) (by rw [List.length_map]; omega)
  · intro bi ei m hm W pos hp hr Q hE hQ hW
    exact en_y68 m (hms m hm) 1 (by omega) (by omega) W ei bi (pos : Int) hE (by omega) (by omega) (by omega) Q hQ (fun W1 hB a T ha hc => hW W1 hB a T ha (by rw [bl1s _ m (hms m hm)]; exact hc))
set_option maxRecDepth 100000 in
set_option maxHeartbeats 4000000 in
theorem li_n67 (ms : List Nat) (hms : ∀ m ∈ ms, m < 65536) (hlen : ms.length ≤ 200) (b e L cap : Nat) (A : Option Nat) (hbe : b < e) (w : World) (zb : Nat) (zo : Array Value) (zT : TypeId) (hzT : zT ≠ 5) (hzb : zb ≠ b ∧ zb ≠ e) (hzo : w.heap[zb]? = some (.cells zo zT (0, 0))) (hL : Ls w L ⟨#[110]⟩ A cap (ms.map fun m : Nat => .iface 43 (.int .i16 (sx 2 m)))) (he : w.heap[e]? = some (.cells #[.iface 50 (.pointer (some ⟨b, 0, none⟩)), .slice none 0 0, .iface 67 (.agg #[]), .int .i64 (0)] 65 (0, 0))) (lr : Int) (hb : w.heap[b]? = some (.cells #[.slice none 0 0, .int .i64 0, .int .i8 lr] 47 (0, 0))) :
    Calls Tryz.prog 19 #[.pointer (some ⟨e, 0, none⟩), .agg #[.iface 127 (.pointer (some ⟨L, 0, none⟩)), .string ⟨#[91, 110]⟩], .int .i64 0] w fun e' w' => e' = .returned (.tuple #[]) ∧ Lib.IsBuffer 47 5 b b (Lib.byteCells (bl true 4 (2 * ms.length) ++ [] ++ ms.flatMap (bl true 2))) w' ∧ Below b w w' ∧ w'.heap[zb]? = some (.cells zo zT (0, 0)) := by
  have hf : (ms.flatMap (bl true 2)).length = 2 * ms.length := by have := flat_len (bl_len true 2) ms ms.length (Nat.le_refl _); rwa [List.take_length] at this
  rw [← hf]
  refine li 110 2 0 ⟨by omega, by omega⟩ (by omega) (by omega) ms _ (fun _ => rfl) (bl true 2) (bl_len _ _) hlen (bl true 4 (ms.flatMap (bl true 2)).length) [] (bl_len _ _ _) (by simp) (.iface 67 (.agg #[])) (.inl rfl) b e L cap A hbe w zb zo zT hzT hzb hzo hL he lr hb al_ln (vk_ln _ rfl)
    (fun W h => align0_calls W e _ _ _ 0 4 h (by omega) (by omega) (by omega) (by omega) (by omega)) (fun W h => pad0_calls W e _ _ _ 0 0 4 h (by omega) (by omega) (by omega) (by omega) (by omega) (by omega) (by omega)) (fun W h => (pad0_calls W e _ _ _ 0 4 2 h (by omega) (by omega) (by omega) (by omega) (by omega) (by omega) (by omega)).mono (fun _ _ h => h)) el_n al_n ?_ ?_ ?_ ?_
  · exact fun W g hO hE F hF _ _ => (align0_calls W e _ _ _ 4 2 hE (by omega) (by omega) (by omega) (by omega) (by omega)).mono (by rintro e' w' ⟨rfl, rfl⟩; exact ⟨rfl, by rw [List.append_nil]; exact hO, hE, hF, Below.refl _ _⟩)
  · intro W Q hE hQ hW
    refine (en_u67 (ms.flatMap (bl true 2)).length (by omega) 0 (by omega) (by omega) W e b 0 hE (by omega) (by omega) (by omega) Q hQ (fun W1 hB a T ha hc => hW W1 hB a T ha (by rw [bl4t]; exact hc))).mono ?_
    rintro e' w' ⟨h1, w1, h2, h3⟩
    exact ⟨h1, w1, h2, h3⟩
  · exact fun W h i m hi => idx_n W L _ A cap _ h i (.int .i16 (sx 2 m)) (by rw [List.getElem?_map, hi]; rfl) (by rw [List.length_map]; omega)
  · intro bi ei m hm W pos hp hr Q hE hQ hW
    exact en_n67 (sx 2 m) m (sx_n m (hms m hm)).1 (sx_n m (hms m hm)).2.1 (sx_n m (hms m hm)).2.2 1 (by omega) (by omega) W ei bi (pos : Int) hE (by omega) (by omega) (by omega) Q hQ (fun W1 hB a T ha hc => hW W1 hB a T ha (by rw [bl2t]; exact hc))
set_option maxRecDepth 100000 in
set_option maxHeartbeats 4000000 in
theorem li_n68 (ms : List Nat) (hms : ∀ m ∈ ms, m < 65536) (hlen : ms.length ≤ 200) (b e L cap : Nat) (A : Option Nat) (hbe : b < e) (w : World) (zb : Nat) (zo : Array Value) (zT : TypeId) (hzT : zT ≠ 5) (hzb : zb ≠ b ∧ zb ≠ e) (hzo : w.heap[zb]? = some (.cells zo zT (0, 0))) (hL : Ls w L ⟨#[110]⟩ A cap (ms.map fun m : Nat => .iface 43 (.int .i16 (sx 2 m)))) (he : w.heap[e]? = some (.cells #[.iface 50 (.pointer (some ⟨b, 0, none⟩)), .slice none 0 0, .iface 68 (.agg #[]), .int .i64 (0)] 65 (0, 0))) (lr : Int) (hb : w.heap[b]? = some (.cells #[.slice none 0 0, .int .i64 0, .int .i8 lr] 47 (0, 0))) :
    Calls Tryz.prog 19 #[.pointer (some ⟨e, 0, none⟩), .agg #[.iface 127 (.pointer (some ⟨L, 0, none⟩)), .string ⟨#[91, 110]⟩], .int .i64 0] w fun e' w' => e' = .returned (.tuple #[]) ∧ Lib.IsBuffer 47 5 b b (Lib.byteCells (bl false 4 (2 * ms.length) ++ [] ++ ms.flatMap (bl false 2))) w' ∧ Below b w w' ∧ w'.heap[zb]? = some (.cells zo zT (0, 0)) := by
  have hf : (ms.flatMap (bl false 2)).length = 2 * ms.length := by have := flat_len (bl_len false 2) ms ms.length (Nat.le_refl _); rwa [List.take_length] at this
  rw [← hf]
  refine li 110 2 0 ⟨by omega, by omega⟩ (by omega) (by omega) ms _ (fun _ => rfl) (bl false 2) (bl_len _ _) hlen (bl false 4 (ms.flatMap (bl false 2)).length) [] (bl_len _ _ _) (by simp) (.iface 68 (.agg #[])) (.inr rfl) b e L cap A hbe w zb zo zT hzT hzb hzo hL he lr hb al_ln (vk_ln _ rfl)
    (fun W h => align0_calls W e _ _ _ 0 4 h (by omega) (by omega) (by omega) (by omega) (by omega)) (fun W h => pad0_calls W e _ _ _ 0 0 4 h (by omega) (by omega) (by omega) (by omega) (by omega) (by omega) (by omega)) (fun W h => (pad0_calls W e _ _ _ 0 4 2 h (by omega) (by omega) (by omega) (by omega) (by omega) (by omega) (by omega)).mono (fun _ _ h => h)) el_n al_n ?_ ?_ ?_ ?_
  · exact fun W g hO hE F hF _ _ => (align0_calls W e _ _ _ 4 2 hE (by omega) (by omega) (by omega) (by omega) (by omega)).mono (by rintro e' w' ⟨rfl, rfl⟩; exact ⟨rfl, by rw [List.append_nil]; exact hO, hE, hF, Below.refl _ _⟩)
  · intro W Q hE hQ hW
    refine (en_u68 (ms.flatMap (bl false 2)).length (by omega) 0 (by omega) (by omega) W e b 0 hE (by omega) (by omega) (by omega) Q hQ (fun W1 hB a T ha hc => hW W1 hB a T ha (by rw [bl4f]; exact hc))).mono ?_
    rintro e' w' ⟨h1, w1, h2, h3⟩
    exact ⟨h1, w1, h2, h3⟩
  · exact fun W h i m hi => idx_n W L _ A cap _ h i (.int .i16 (sx 2 m)) (by rw [List.getElem?_map, hi]; rfl) (by rw [List.length_map]; omega)
  · intro bi ei m hm W pos hp hr Q hE hQ hW
    exact en_n68 (sx 2 m) m (sx_n m (hms m hm)).1 (sx_n m (hms m hm)).2.1 (sx_n m (hms m hm)).2.2 1 (by omega) (by omega) W ei bi (pos : Int) hE (by omega) (by omega) (by omega) Q hQ (fun W1 hB a T ha hc => hW W1 hB a T ha (by rw [bl2f]; exact hc))
set_option maxRecDepth 100000 in
set_option maxHeartbeats 4000000 in
theorem li_q67 (ms : List Nat) (hms : ∀ m ∈ ms, m < 65536) (hlen : ms.length ≤ 200) (b e L cap : Nat) (A : Option Nat) (hbe : b < e) (w : World) (zb : Nat) (zo : Array Value) (zT : TypeId) (hzT : zT ≠ 5) (hzb : zb ≠ b ∧ zb ≠ e) (hzo : w.heap[zb]? = some (.cells zo zT (0, 0))) (hL : Ls w L ⟨#[113]⟩ A cap (ms.map fun m : Nat => .iface 90 (.int .u16 (m : Int)))) (he : w.heap[e]? = some (.cells #[.iface 50 (.pointer (some ⟨b, 0, none⟩)), .slice none 0 0, .iface 67 (.agg #[]), .int .i64 (0)] 65 (0, 0))) (lr : Int) (hb : w.heap[b]? = some (.cells #[.slice none 0 0, .int .i64 0, .int .i8 lr] 47 (0, 0))) :
    Calls Tryz.prog 19 #[.pointer (some ⟨e, 0, none⟩), .agg #[.iface 127 (.pointer (some ⟨L, 0, none⟩)), .string ⟨#[91, 113]⟩], .int .i64 0] w fun e' w' => e' = .returned (.tuple #[]) ∧ Lib.IsBuffer 47 5 b b (Lib.byteCells (bl true 4 (2 * ms.length) ++ [] ++ ms.flatMap (bl true 2))) w' ∧ Below b w w' ∧ w'.heap[zb]? = some (.cells zo zT (0, 0)) := by
  have hf : (ms.flatMap (bl true 2)).length = 2 * ms.length := by have := flat_len (bl_len true 2) ms ms.length (Nat.le_refl _); rwa [List.take_length] at this
  rw [← hf]
  refine li 113 2 0 ⟨by omega, by omega⟩ (by omega) (by omega) ms _ (fun _ => rfl) (bl true 2) (bl_len _ _) hlen (bl true 4 (ms.flatMap (bl true 2)).length) [] (bl_len _ _ _) (by simp) (.iface 67 (.agg #[])) (.inl rfl) b e L cap A hbe w zb zo zT hzT hzb hzo hL he lr hb al_lq (vk_lq _ rfl)
    (fun W h => align0_calls W e _ _ _ 0 4 h (by omega) (by omega) (by omega) (by omega) (by omega)) (fun W h => pad0_calls W e _ _ _ 0 0 4 h (by omega) (by omega) (by omega) (by omega) (by omega) (by omega) (by omega)) (fun W h => (pad0_calls W e _ _ _ 0 4 2 h (by omega) (by omega) (by omega) (by omega) (by omega) (by omega) (by omega)).mono (fun _ _ h => h)) el_q al_q ?_ ?_ ?_ ?_
  · exact fun W g hO hE F hF _ _ => (align0_calls W e _ _ _ 4 2 hE (by omega) (by omega) (by omega) (by omega) (by omega)).mono (by rintro e' w' ⟨rfl, rfl⟩; exact ⟨rfl, by rw [List.append_nil]; exact hO, hE, hF, Below.refl _ _⟩)
  · intro W Q hE hQ hW
    refine (en_u67 (ms.flatMap (bl true 2)).length (by omega) 0 (by omega) (by omega) W e b 0 hE (by omega) (by omega) (by omega) Q hQ (fun W1 hB a T ha hc => hW W1 hB a T ha (by rw [bl4t]; exact hc))).mono ?_
    rintro e' w' ⟨h1, w1, h2, h3⟩
    exact ⟨h1, w1, h2, h3⟩
  · exact fun W h i m hi => idx_q W L _ A cap _ h i (.int .u16 (m : Int)) (by rw [List.getElem?_map, hi]; rfl) (by rw [List.length_map]; omega)
  · intro bi ei m hm W pos hp hr Q hE hQ hW
    exact en_q67 m (hms m hm) 1 (by omega) (by omega) W ei bi (pos : Int) hE (by omega) (by omega) (by omega) Q hQ (fun W1 hB a T ha hc => hW W1 hB a T ha (by rw [bl2t]; exact hc))
set_option maxRecDepth 100000 in
set_option maxHeartbeats 4000000 in
theorem li_q68 (ms : List Nat) (hms : ∀ m ∈ ms, m < 65536) (hlen : ms.length ≤ 200) (b e L cap : Nat) (A : Option Nat) (hbe : b < e) (w : World) (zb : Nat) (zo : Array Value) (zT : TypeId) (hzT : zT ≠ 5) (hzb : zb ≠ b ∧ zb ≠ e) (hzo : w.heap[zb]? = some (.cells zo zT (0, 0))) (hL : Ls w L ⟨#[113]⟩ A cap (ms.map fun m : Nat => .iface 90 (.int .u16 (m : Int)))) (he : w.heap[e]? = some (.cells #[.iface 50 (.pointer (some ⟨b, 0, none⟩)), .slice none 0 0, .iface 68 (.agg #[]), .int .i64 (0)] 65 (0, 0))) (lr : Int) (hb : w.heap[b]? = some (.cells #[.slice none 0 0, .int .i64 0, .int .i8 lr] 47 (0, 0))) :
    Calls Tryz.prog 19 #[.pointer (some ⟨e, 0, none⟩), .agg #[.iface 127 (.pointer (some ⟨L, 0, none⟩)), .string ⟨#[91, 113]⟩], .int .i64 0] w fun e' w' => e' = .returned (.tuple #[]) ∧ Lib.IsBuffer 47 5 b b (Lib.byteCells (bl false 4 (2 * ms.length) ++ [] ++ ms.flatMap (bl false 2))) w' ∧ Below b w w' ∧ w'.heap[zb]? = some (.cells zo zT (0, 0)) := by
  have hf : (ms.flatMap (bl false 2)).length = 2 * ms.length := by have := flat_len (bl_len false 2) ms ms.length (Nat.le_refl _); rwa [List.take_length] at this
  rw [← hf]
  refine li 113 2 0 ⟨by omega, by omega⟩ (by omega) (by omega) ms _ (fun _ => rfl) (bl false 2) (bl_len _ _) hlen (bl false 4 (ms.flatMap (bl false 2)).length) [] (bl_len _ _ _) (by simp) (.iface 68 (.agg #[])) (.inr rfl) b e L cap A hbe w zb zo zT hzT hzb hzo hL he lr hb al_lq (vk_lq _ rfl)
    (fun W h => align0_calls W e _ _ _ 0 4 h (by omega) (by omega) (by omega) (by omega) (by omega)) (fun W h => pad0_calls W e _ _ _ 0 0 4 h (by omega) (by omega) (by omega) (by omega) (by omega) (by omega) (by omega)) (fun W h => (pad0_calls W e _ _ _ 0 4 2 h (by omega) (by omega) (by omega) (by omega) (by omega) (by omega) (by omega)).mono (fun _ _ h => h)) el_q al_q ?_ ?_ ?_ ?_
  · exact fun W g hO hE F hF _ _ => (align0_calls W e _ _ _ 4 2 hE (by omega) (by omega) (by omega) (by omega) (by omega)).mono (by rintro e' w' ⟨rfl, rfl⟩; exact ⟨rfl, by rw [List.append_nil]; exact hO, hE, hF, Below.refl _ _⟩)
  · intro W Q hE hQ hW
    refine (en_u68 (ms.flatMap (bl false 2)).length (by omega) 0 (by omega) (by omega) W e b 0 hE (by omega) (by omega) (by omega) Q hQ (fun W1 hB a T ha hc => hW W1 hB a T ha (by rw [bl4f]; exact hc))).mono ?_
    rintro e' w' ⟨h1, w1, h2, h3⟩
    exact ⟨h1, w1, h2, h3⟩
  · exact fun W h i m hi => idx_q W L _ A cap _ h i (.int .u16 (m : Int)) (by rw [List.getElem?_map, hi]; rfl) (by rw [List.length_map]; omega)
  · intro bi ei m hm W pos hp hr Q hE hQ hW
    exact en_q68 m (hms m hm) 1 (by omega) (by omega) W ei bi (pos : Int) hE (by omega) (by omega) (by omega) Q hQ (fun W1 hB a T ha hc => hW W1 hB a T ha (by rw [bl2f]; exact hc))
set_option maxRecDepth 100000 in
set_option maxHeartbeats 4000000 in
theorem li_i67 (ms : List Nat) (hms : ∀ m ∈ ms, m < 4294967296) (hlen : ms.length ≤ 200) (b e L cap : Nat) (A : Option Nat) (hbe : b < e) (w : World) (zb : Nat) (zo : Array Value) (zT : TypeId) (hzT : zT ≠ 5) (hzb : zb ≠ b ∧ zb ≠ e) (hzo : w.heap[zb]? = some (.cells zo zT (0, 0))) (hL : Ls w L ⟨#[105]⟩ A cap (ms.map fun m : Nat => .iface 21 (.int .i32 (sx 4 m)))) (he : w.heap[e]? = some (.cells #[.iface 50 (.pointer (some ⟨b, 0, none⟩)), .slice none 0 0, .iface 67 (.agg #[]), .int .i64 (0)] 65 (0, 0))) (lr : Int) (hb : w.heap[b]? = some (.cells #[.slice none 0 0, .int .i64 0, .int .i8 lr] 47 (0, 0))) :
    Calls Tryz.prog 19 #[.pointer (some ⟨e, 0, none⟩), .agg #[.iface 127 (.pointer (some ⟨L, 0, none⟩)), .string ⟨#[91, 105]⟩], .int .i64 0] w fun e' w' => e' = .returned (.tuple #[]) ∧ Lib.IsBuffer 47 5 b b (Lib.byteCells (bl true 4 (4 * ms.length) ++ [] ++ ms.flatMap (bl true 4))) w' ∧ Below b w w' ∧ w'.heap[zb]? = some (.cells zo zT (0, 0)) := by
  have hf : (ms.flatMap (bl true 4)).length = 4 * ms.length := by have := flat_len (bl_len true 4) ms ms.length (Nat.le_refl _); rwa [List.take_length] at this
  rw [← hf]
  refine li 105 4 0 ⟨by omega, by omega⟩ (by omega) (by omega) ms _ (fun _ => rfl) (bl true 4) (bl_len _ _) hlen (bl true 4 (ms.flatMap (bl true 4)).length) [] (bl_len _ _ _) (by simp) (.iface 67 (.agg #[])) (.inl rfl) b e L cap A hbe w zb zo zT hzT hzb hzo hL he lr hb al_li (vk_li _ rfl)
    (fun W h => align0_calls W e _ _ _ 0 4 h (by omega) (by omega) (by omega) (by omega) (by omega)) (fun W h => pad0_calls W e _ _ _ 0 0 4 h (by omega) (by omega) (by omega) (by omega) (by omega) (by omega) (by omega)) (fun W h => (pad0_calls W e _ _ _ 0 4 4 h (by omega) (by omega) (by omega) (by omega) (by omega) (by omega) (by omega)).mono (fun _ _ h => h)) el_i al_i ?_ ?_ ?_ ?_
  · exact fun W g hO hE F hF _ _ => (align0_calls W e _ _ _ 4 4 hE (by omega) (by omega) (by omega) (by omega) (by omega)).mono (by rintro e' w' ⟨rfl, rfl⟩; exact ⟨rfl, by rw [List.append_nil]; exact hO, hE, hF, Below.refl _ _⟩)
  · intro W Q hE hQ hW
    refine (en_u67 (ms.flatMap (bl true 4)).length (by omega) 0 (by omega) (by omega) W e b 0 hE (by omega) (by omega) (by omega) Q hQ (fun W1 hB a T ha hc => hW W1 hB a T ha (by rw [bl4t]; exact hc))).mono ?_
    rintro e' w' ⟨h1, w1, h2, h3⟩
    exact ⟨h1, w1, h2, h3⟩
  · exact fun W h i m hi => idx_i W L _ A cap _ h i (.int .i32 (sx 4 m)) (by rw [List.getElem?_map, hi]; rfl) (by rw [List.length_map]; omega)
  · intro bi ei m hm W pos hp hr Q hE hQ hW
    exact en_i67 (sx 4 m) m (sx_i m (hms m hm)).1 (sx_i m (hms m hm)).2.1 (sx_i m (hms m hm)).2.2 1 (by omega) (by omega) W ei bi (pos : Int) hE (by omega) (by omega) (by omega) Q hQ (fun W1 hB a T ha hc => hW W1 hB a T ha (by rw [bl4t]; exact hc))
set_option maxRecDepth 100000 in
set_option maxHeartbeats 4000000 in
theorem li_i68 (ms : List Nat) (hms : ∀ m ∈ ms, m < 4294967296) (hlen : ms.length ≤ 200) (b e L cap : Nat) (A : Option Nat) (hbe : b < e) (w : World) (zb : Nat) (zo : Array Value) (zT : TypeId) (hzT : zT ≠ 5) (hzb : zb ≠ b ∧ zb ≠ e) (hzo : w.heap[zb]? = some (.cells zo zT (0, 0))) (hL : Ls w L ⟨#[105]⟩ A cap (ms.map fun m : Nat => .iface 21 (.int .i32 (sx 4 m)))) (he : w.heap[e]? = some (.cells #[.iface 50 (.pointer (some ⟨b, 0, none⟩)), .slice none 0 0, .iface 68 (.agg #[]), .int .i64 (0)] 65 (0, 0))) (lr : Int) (hb : w.heap[b]? = some (.cells #[.slice none 0 0, .int .i64 0, .int .i8 lr] 47 (0, 0))) :
    Calls Tryz.prog 19 #[.pointer (some ⟨e, 0, none⟩), .agg #[.iface 127 (.pointer (some ⟨L, 0, none⟩)), .string ⟨#[91, 105]⟩], .int .i64 0] w fun e' w' => e' = .returned (.tuple #[]) ∧ Lib.IsBuffer 47 5 b b (Lib.byteCells (bl false 4 (4 * ms.length) ++ [] ++ ms.flatMap (bl false 4))) w' ∧ Below b w w' ∧ w'.heap[zb]? = some (.cells zo zT (0, 0)) := by
  have hf : (ms.flatMap (bl false 4)).length = 4 * ms.length := by have := flat_len (bl_len false 4) ms ms.length (Nat.le_refl _); rwa [List.take_length] at this
  rw [← hf]
  refine li 105 4 0 ⟨by omega, by omega⟩ (by omega) (by omega) ms _ (fun _ => rfl) (bl false 4) (bl_len _ _) hlen (bl false 4 (ms.flatMap (bl false 4)).length) [] (bl_len _ _ _) (by simp) (.iface 68 (.agg #[])) (.inr rfl) b e L cap A hbe w zb zo zT hzT hzb hzo hL he lr hb al_li (vk_li _ rfl)
    (fun W h => align0_calls W e _ _ _ 0 4 h (by omega) (by omega) (by omega) (by omega) (by omega)) (fun W h => pad0_calls W e _ _ _ 0 0 4 h (by omega) (by omega) (by omega) (by omega) (by omega) (by omega) (by omega)) (fun W h => (pad0_calls W e _ _ _ 0 4 4 h (by omega) (by omega) (by omega) (by omega) (by omega) (by omega) (by omega)).mono (fun _ _ h => h)) el_i al_i ?_ ?_ ?_ ?_
  · exact fun W g hO hE F hF _ _ => (align0_calls W e _ _ _ 4 4 hE (by omega) (by omega) (by omega) (by omega) (by omega)).mono (by rintro e' w' ⟨rfl, rfl⟩; exact ⟨rfl, by rw [List.append_nil]; exact hO, hE, hF, Below.refl _ _⟩)
  · intro W Q hE hQ hW
    refine (en_u68 (ms.flatMap (bl false 4)).length (by omega) 0 (by omega) (by omega) W e b 0 hE (by omega) (by omega) (by omega) Q hQ (fun W1 hB a T ha hc => hW W1 hB a T ha (by rw [bl4f]; exact hc))).mono ?_
    rintro e' w' ⟨h1, w1, h2, h3⟩
    exact ⟨h1, w1, h2, h3⟩
  · exact fun W h i m hi => idx_i W L _ A cap _ h i (.int .i32 (sx 4 m)) (by rw [List.getElem?_map, hi]; rfl) (by rw [List.length_map]; omega)
  · intro bi ei m hm W pos hp hr Q hE hQ hW
    exact en_i68 (sx 4 m) m (sx_i m (hms m hm)).1 (sx_i m (hms m hm)).2.1 (sx_i m (hms m hm)).2.2 1 (by omega) (by omega) W ei bi (pos : Int) hE (by omega) (by omega) (by omega) Q hQ (fun W1 hB a T ha hc => hW W1 hB a T ha (by rw [bl4f]; exact hc))
set_option maxRecDepth 100000 in
set_option maxHeartbeats 4000000 in
theorem li_u67 (ms : List Nat) (hms : ∀ m ∈ ms, m < 4294967296) (hlen : ms.length ≤ 200) (b e L cap : Nat) (A : Option Nat) (hbe : b < e) (w : World) (zb : Nat) (zo : Array Value) (zT : TypeId) (hzT : zT ≠ 5) (hzb : zb ≠ b ∧ zb ≠ e) (hzo : w.heap[zb]? = some (.cells zo zT (0, 0))) (hL : Ls w L ⟨#[117]⟩ A cap (ms.map fun m : Nat => .iface 87 (.int .u32 (m : Int)))) (he : w.heap[e]? = some (.cells #[.iface 50 (.pointer (some ⟨b, 0, none⟩)), .slice none 0 0, .iface 67 (.agg #[]), .int .i64 (0)] 65 (0, 0))) (lr : Int) (hb : w.heap[b]? = some (.cells #[.slice none 0 0, .int .i64 0, .int .i8 lr] 47 (0, 0))) :
    Calls Tryz.prog 19 #[.pointer (some ⟨e, 0, none⟩), .agg #[.iface 127 (.pointer (some ⟨L, 0, none⟩)), .string ⟨#[91, 117]⟩], .int .i64 0] w fun e' w' => e' = .returned (.tuple #[]) ∧ Lib.IsBuffer 47 5 b b (Lib.byteCells (bl true 4 (4 * ms.length) ++ [] ++ ms.flatMap (bl true 4))) w' ∧ Below b w w' ∧ w'.heap[zb]? = some (.cells zo zT (0, 0)) := by
  have hf : (ms.flatMap (bl true 4)).length = 4 * ms.length := by have := flat_len (bl_len true 4) ms ms.length (Nat.le_refl _); rwa [List.take_length] at this
  rw [← hf]
  refine li 117 4 0 ⟨by omega, by omega⟩ (by omega) (by omega) ms _ (fun _ => rfl) (bl true 4) (bl_len _ _) hlen (bl true 4 (ms.flatMap (bl true 4)).length) [] (bl_len _ _ _) (by simp) (.iface 67 (.agg #[])) (.inl rfl) b e L cap A hbe w zb zo zT hzT hzb hzo hL he lr hb al_lu (vk_lu _ rfl)
    (fun W h => align0_calls W e _ _ _ 0 4 h (by omega) (by omega) (by omega) (by omega) (by omega)) (fun W h => pad0_calls W e _ _ _ 0 0 4 h (by omega) (by omega) (by omega) (by omega) (by omega) (by omega) (by omega)) (fun W h => (pad0_calls W e _ _ _ 0 4 4 h (by omega) (by omega) (by omega) (by omega) (by omega) (by omega) (by omega)).mono (fun _ _ h => h)) el_u al_u ?_ ?_ ?_ ?_
  · exact fun W g hO hE F hF _ _ => (align0_calls W e _ _ _ 4 4 hE (by omega) (by omega) (by omega) (by omega) (by omega)).mono (by rintro e' w' ⟨rfl, rfl⟩; exact ⟨rfl, by rw [List.append_nil]; exact hO, hE, hF, Below.refl _ _⟩)
  · intro W Q hE hQ hW
    refine (en_u67 (ms.flatMap (bl true 4)).length (by omega) 0 (by omega) (by omega) W e b 0 hE (by omega) (by omega) (by omega) Q hQ (fun W1 hB a T ha hc => hW W1 hB a T ha (by rw [bl4t]; exact hc))).mono ?_
    rintro e' w' ⟨h1, w1, h2, h3⟩
    exact ⟨h1, w1, h2, h3⟩
  · exact fun W h i m hi => idx_u W L _ A cap _ h i (.int .u32 (m : Int)) (by rw [List.getElem?_map, hi]; rfl) (by rw [List.length_map]; omega)
  · intro bi ei m hm W pos hp hr Q hE hQ hW
    exact en_u67 m (hms m hm) 1 (by omega) (by omega) W ei bi (pos : Int) hE (by omega) (by omega) (by omega) Q hQ (fun W1 hB a T ha hc => hW W1 hB a T ha (by rw [bl4t]; exact hc))
set_option maxRecDepth 100000 in
set_option maxHeartbeats 4000000 in
theorem li_u68 (ms : List Nat) (hms : ∀ m ∈ ms, m < 4294967296) (hlen : ms.length ≤ 200) (b e L cap : Nat) (A : Option Nat) (hbe : b < e) (w : World) (zb : Nat) (zo : Array Value) (zT : TypeId) (hzT : zT ≠ 5) (hzb : zb ≠ b ∧ zb ≠ e) (hzo : w.heap[zb]? = some (.cells zo zT (0, 0))) (hL : Ls w L ⟨#[117]⟩ A cap (ms.map fun m : Nat => .iface 87 (.int .u32 (m : Int)))) (he : w.heap[e]? = some (.cells #[.iface 50 (.pointer (some ⟨b, 0, none⟩)), .slice none 0 0, .iface 68 (.agg #[]), .int .i64 (0)] 65 (0, 0))) (lr : Int) (hb : w.heap[b]? = some (.cells #[.slice none 0 0, .int .i64 0, .int .i8 lr] 47 (0, 0))) :
    Calls Tryz.prog 19 #[.pointer (some ⟨e, 0, none⟩), .agg #[.iface 127 (.pointer (some ⟨L, 0, none⟩)), .string ⟨#[91, 117]⟩], .int .i64 0] w fun e' w' => e' = .returned (.tuple #[]) ∧ Lib.IsBuffer 47 5 b b (Lib.byteCells (bl false 4 (4 * ms.length) ++ [] ++ ms.flatMap (bl false 4))) w' ∧ Below b w w' ∧ w'.heap[zb]? = some (.cells zo zT (0, 0)) := by
  have hf : (ms.flatMap (bl false 4)).length = 4 * ms.length := by have := flat_len (bl_len false 4) ms ms.length (Nat.le_refl _); rwa [List.take_length] at this
  rw [← hf]
  refine li 117 4 0 ⟨by omega, by omega⟩ (by omega) (by omega) ms _ (fun _ => rfl) (bl false 4) (bl_len _ _) hlen (bl false 4 (ms.flatMap (bl false 4)).length) [] (bl_len _ _ _) (by simp) (.iface 68 (.agg #[])) (.inr rfl) b e L cap A hbe w zb zo zT hzT hzb hzo hL he lr hb al_lu (vk_lu _ rfl)
    (fun W h => align0_calls W e _ _ _ 0 4 h (by omega) (by omega) (by omega) (by omega) (by omega)) (fun W h => pad0_calls W e _ _ _ 0 0 4 h (by omega) (by omega) (by omega) (by omega) (by omega) (by omega) (by omega)) (fun W h => (pad0_calls W e _ _ _ 0 4 4 h (by omega) (by omega) (by omega) (by omega) (by omega) (by omega) (by omega)).mono (fun _ _ h => h)) el_u al_u ?_ ?_ ?_ ?_
  · exact fun W g hO hE F hF _ _ => (align0_calls W e _ _ _ 4 4 hE (by omega) (by omega) (by omega) (by omega) (by omega)).mono (by rintro e' w' ⟨rfl, rfl⟩; exact ⟨rfl, by rw [List.append_nil]; exact hO, hE, hF, Below.refl _ _⟩)
  · intro W Q hE hQ hW
    refine (en_u68 (ms.flatMap (bl false 4)).length (by omega) 0 (by omega) (by omega) W e b 0 hE (by omega) (by omega) (by omega) Q hQ (fun W1 hB a T ha hc => hW W1 hB a T ha (by rw [bl4f]; exact hc))).mono ?_
    rintro e' w' ⟨h1, w1, h2, h3⟩
    exact ⟨h1, w1, h2, h3⟩
  · exact fun W h i m hi => idx_u W L _ A cap _ h i (.int .u32 (m : Int)) (by rw [List.getElem?_map, hi]; rfl) (by rw [List.length_map]; omega)
  · intro bi ei m hm W pos hp hr Q hE hQ hW
    exact en_u68 m (hms m hm) 1 (by omega) (by omega) W ei bi (pos : Int) hE (by omega) (by omega) (by omega) Q hQ (fun W1 hB a T ha hc => hW W1 hB a T ha (by rw [bl4f]; exact hc))
set_option maxRecDepth 100000 in
set_option maxHeartbeats 4000000 in
theorem li_x67 (ms : List Nat) (hms : ∀ m ∈ ms, m < 18446744073709551616) (hlen : ms.length ≤ 200) (b e L cap : Nat) (A : Option Nat) (hbe : b < e) (w : World) (zb : Nat) (zo : Array Value) (zT : TypeId) (hzT : zT ≠ 5) (hzb : zb ≠ b ∧ zb ≠ e) (hzo : w.heap[zb]? = some (.cells zo zT (0, 0))) (hL : Ls w L ⟨#[120]⟩ A cap (ms.map fun m : Nat => .iface 2 (.int .i64 (sx 8 m)))) (he : w.heap[e]? = some (.cells #[.iface 50 (.pointer (some ⟨b, 0, none⟩)), .slice none 0 0, .iface 67 (.agg #[]), .int .i64 (0)] 65 (0, 0))) (lr : Int) (hb : w.heap[b]? = some (.cells #[.slice none 0 0, .int .i64 0, .int .i8 lr] 47 (0, 0))) :
    Calls Tryz.prog 19 #[.pointer (some ⟨e, 0, none⟩), .agg #[.iface 127 (.pointer (some ⟨L, 0, none⟩)), .string ⟨#[91, 120]⟩], .int .i64 0] w fun e' w' => e' = .returned (.tuple #[]) ∧ Lib.IsBuffer 47 5 b b (Lib.byteCells (bl true 4 (8 * ms.length) ++ [0, 0, 0, 0] ++ ms.flatMap (bl true 8))) w' ∧ Below b w w' ∧ w'.heap[zb]? = some (.cells zo zT (0, 0)) := by
  have hf : (ms.flatMap (bl true 8)).length = 8 * ms.length := by have := flat_len (bl_len true 8) ms ms.length (Nat.le_refl _); rwa [List.take_length] at this
  rw [← hf]
  refine li 120 8 4 ⟨by omega, by omega⟩ (by omega) (by omega) ms _ (fun _ => rfl) (bl true 8) (bl_len _ _) hlen (bl true 4 (ms.flatMap (bl true 8)).length) [0, 0, 0, 0] (bl_len _ _ _) (by simp) (.iface 67 (.agg #[])) (.inl rfl) b e L cap A hbe w zb zo zT hzT hzb hzo hL he lr hb al_lx (vk_lx _ rfl)
    (fun W h => align0_calls W e _ _ _ 0 4 h (by omega) (by omega) (by omega) (by omega) (by omega)) (fun W h => pad0_calls W e _ _ _ 0 0 4 h (by omega) (by omega) (by omega) (by omega) (by omega) (by omega) (by omega)) (fun W h => (pad4_calls W e _ _ _ 0 4 h (by omega)).mono (fun _ _ h => h)) el_x al_x ?_ ?_ ?_ ?_
  · exact fun W g hO hE F hF hFn hg => ag8 _ (bl_len _ _ _) _ b e hbe W g hO hE F hF hFn hg
  · intro W Q hE hQ hW
    refine (en_u67 (ms.flatMap (bl true 8)).length (by omega) 0 (by omega) (by omega) W e b 0 hE (by omega) (by omega) (by omega) Q hQ (fun W1 hB a T ha hc => hW W1 hB a T ha (by rw [bl4t]; exact hc))).mono ?_
    rintro e' w' ⟨h1, w1, h2, h3⟩
    exact ⟨h1, w1, h2, h3⟩
  · exact fun W h i m hi => idx_x W L _ A cap _ h i (.int .i64 (sx 8 m)) (by rw [List.getElem?_map, hi]; rfl) (by rw [List.length_map]; omega)
  · intro bi ei m hm W pos hp hr Q hE hQ hW
    exact en_x67 (sx 8 m) m (sx_x m (hms m hm)).1 (sx_x m (hms m hm)).2.1 (sx_x m (hms m hm)).2.2 1 (by omega) (by omega) W ei bi (pos : Int) hE (by omega) (by omega) (by omega) Q hQ (fun W1 hB a T ha hc => hW W1 hB a T ha (by rw [bl8t]; exact hc))
set_option maxRecDepth 100000 in
set_option maxHeartbeats 4000000 in
theorem li_x68 (ms : List Nat) (hms : ∀ m ∈ ms, m < 18446744073709551616) (hlen : ms.length ≤ 200) (b e L cap : Nat) (A : Option Nat) (hbe : b < e) (w : World) (zb : Nat) (zo : Array Value) (zT : TypeId) (hzT : zT ≠ 5) (hzb : zb ≠ b ∧ zb ≠ e) (hzo : w.heap[zb]? = some (.cells zo zT (0, 0))) (hL : Ls w L ⟨#[120]⟩ A cap (ms.map fun m : Nat => .iface 2 (.int .i64 (sx 8 m)))) (he : w.heap[e]? = some (.cells #[.iface 50 (.pointer (some ⟨b, 0, none⟩)), .slice none 0 0, .iface 68 (.agg #[]), .int .i64 (0)] 65 (0, 0))) (lr : Int) (hb : w.heap[b]? = some (.cells #[.slice none 0 0, .int .i64 0, .int .i8 lr] 47 (0, 0))) :
    Calls Tryz.prog 19 #[.pointer (some ⟨e, 0, none⟩), .agg #[.iface 127 (.pointer (some ⟨L, 0, none⟩)), .string ⟨#[91, 120]⟩], .int .i64 0] w fun e' w' => e' = .returned (.tuple #[]) ∧ Lib.IsBuffer 47 5 b b (Lib.byteCells (bl false 4 (8 * ms.length) ++ [0, 0, 0, 0] ++ ms.flatMap (bl false 8))) w' ∧ Below b w w' ∧ w'.heap[zb]? = some (.cells zo zT (0, 0)) := by
  have hf : (ms.flatMap (bl false 8)).length = 8 * ms.length := by have := flat_len (bl_len false 8) ms ms.length (Nat.le_refl _); rwa [List.take_length] at this
  rw [← hf]
  refine li 120 8 4 ⟨by omega, by omega⟩ (by omega) (by omega) ms _ (fun _ => rfl) (bl false 8) (bl_len _ _) hlen (bl false 4 (ms.flatMap (bl false 8)).length) [0, 0, 0, 0] (bl_len _ _ _) (by simp) (.iface 68 (.agg #[])) (.inr rfl) b e L cap A hbe w zb zo zT hzT hzb hzo hL he lr hb al_lx (vk_lx _ rfl)
    (fun W h => align0_calls W e _ _ _ 0 4 h (by omega) (by omega) (by omega) (by omega) (by omega)) (fun W h => pad0_calls W e _ _ _ 0 0 4 h (by omega) (by omega) (by omega) (by omega) (by omega) (by omega) (by omega)) (fun W h => (pad4_calls W e _ _ _ 0 4 h (by omega)).mono (fun _ _ h => h)) el_x al_x ?_ ?_ ?_ ?_
  · exact fun W g hO hE F hF hFn hg => ag8 _ (bl_len _ _ _) _ b e hbe W g hO hE F hF hFn hg
  · intro W Q hE hQ hW
    refine (en_u68 (ms.flatMap (bl false 8)).length (by omega) 0 (by omega) (by omega) W e b 0 hE (by omega) (by omega) (by omega) Q hQ (fun W1 hB a T ha hc => hW W1 hB a T ha (by rw [bl4f]; exact hc))).mono ?_
    rintro e' w' ⟨h1, w1, h2, h3⟩
    exact ⟨h1, w1, h2, h3⟩
  · exact fun W h i m hi => idx_x W L _ A cap _ h i (.int .i64 (sx 8 m)) (by rw [List.getElem?_map, hi]; rfl) (by rw [List.length_map]; omega)
  · intro bi ei m hm W pos hp hr Q hE hQ hW
    exact en_x68 (sx 8 m) m (sx_x m (hms m hm)).1 (sx_x m (hms m hm)).2.1 (sx_x m (hms m hm)).2.2 1 (by omega) (by omega) W ei bi (pos : Int) hE (by omega) (by omega) (by omega) Q hQ (fun W1 hB a T ha hc => hW W1 hB a T ha (by rw [bl8f]; exact hc))
set_option maxRecDepth 100000 in
set_option maxHeartbeats 4000000 in
theorem li_t67 (ms : List Nat) (hms : ∀ m ∈ ms, m < 18446744073709551616) (hlen : ms.length ≤ 200) (b e L cap : Nat) (A : Option Nat) (hbe : b < e) (w : World) (zb : Nat) (zo : Array Value) (zT : TypeId) (hzT : zT ≠ 5) (hzb : zb ≠ b ∧ zb ≠ e) (hzo : w.heap[zb]? = some (.cells zo zT (0, 0))) (hL : Ls w L ⟨#[116]⟩ A cap (ms.map fun m : Nat => .iface 25 (.int .u64 (m : Int)))) (he : w.heap[e]? = some (.cells #[.iface 50 (.pointer (some ⟨b, 0, none⟩)), .slice none 0 0, .iface 67 (.agg #[]), .int .i64 (0)] 65 (0, 0))) (lr : Int) (hb : w.heap[b]? = some (.cells #[.slice none 0 0, .int .i64 0, .int .i8 lr] 47 (0, 0))) :
    Calls Tryz.prog 19 #[.pointer (some ⟨e, 0, none⟩), .agg #[.iface 127 (.pointer (some ⟨L, 0, none⟩)), .string ⟨#[91, 116]⟩], .int .i64 0] w fun e' w' => e' = .returned (.tuple #[]) ∧ Lib.IsBuffer 47 5 b b (Lib.byteCells (bl true 4 (8 * ms.length) ++ [0, 0, 0, 0] ++ ms.flatMap (bl true 8))) w' ∧ Below b w w' ∧ w'.heap[zb]? = some (.cells zo zT (0, 0)) := by
  have hf : (ms.flatMap (bl true 8)).length = 8 * ms.length := by have := flat_len (bl_len true 8) ms ms.length (Nat.le_refl _); rwa [List.take_length] at this
  rw [← hf]
  refine li 116 8 4 ⟨by omega, by omega⟩ (by omega) (by omega) ms _ (fun _ => rfl) (bl true 8) (bl_len _ _) hlen (bl true 4 (ms.flatMap (bl true 8)).length) [0, 0, 0, 0] (bl_len _ _ _) (by simp) (.iface 67 (.agg #[])) (.inl rfl) b e L cap A hbe w zb zo zT hzT hzb hzo hL he lr hb al_lt (vk_lt _ rfl)
    (fun W h => align0_calls W e _ _ _ 0 4 h (by omega) (by omega) (by omega) (by omega) (by omega)) (fun W h => pad0_calls W e _ _ _ 0 0 4 h (by omega) (by omega) (by omega) (by omega) (by omega) (by omega) (by omega)) (fun W h => (pad4_calls W e _ _ _ 0 4 h (by omega)).mono (fun _ _ h => h)) el_t al_t ?_ ?_ ?_ ?_
  · exact fun W g hO hE F hF hFn hg => ag8 _ (bl_len _ _ _) _ b e hbe W g hO hE F hF hFn hg
  · intro W Q hE hQ hW
    refine (en_u67 (ms.flatMap (bl true 8)).length (by omega) 0 (by omega) (by omega) W e b 0 hE (by omega) (by omega) (by omega) Q hQ (fun W1 hB a T ha hc => hW W1 hB a T ha (by rw [bl4t]; exact hc))).mono ?_
    rintro e' w' ⟨h1, w1, h2, h3⟩
    exact ⟨h1, w1, h2, h3⟩
  · exact fun W h i m hi => idx_t W L _ A cap _ h i (.int .u64 (m : Int)) (by rw [List.getElem?_map, hi]; rfl) (by rw [List.length_map]; omega)
  · intro bi ei m hm W pos hp hr Q hE hQ hW
    exact en_t67 m (hms m hm) 1 (by omega) (by omega) W ei bi (pos : Int) hE (by omega) (by omega) (by omega) Q hQ (fun W1 hB a T ha hc => hW W1 hB a T ha (by rw [bl8t]; exact hc))
set_option maxRecDepth 100000 in
set_option maxHeartbeats 4000000 in
theorem li_t68 (ms : List Nat) (hms : ∀ m ∈ ms, m < 18446744073709551616) (hlen : ms.length ≤ 200) (b e L cap : Nat) (A : Option Nat) (hbe : b < e) (w : World) (zb : Nat) (zo : Array Value) (zT : TypeId) (hzT : zT ≠ 5) (hzb : zb ≠ b ∧ zb ≠ e) (hzo : w.heap[zb]? = some (.cells zo zT (0, 0))) (hL : Ls w L ⟨#[116]⟩ A cap (ms.map fun m : Nat => .iface 25 (.int .u64 (m : Int)))) (he : w.heap[e]? = some (.cells #[.iface 50 (.pointer (some ⟨b, 0, none⟩)), .slice none 0 0, .iface 68 (.agg #[]), .int .i64 (0)] 65 (0, 0))) (lr : Int) (hb : w.heap[b]? = some (.cells #[.slice none 0 0, .int .i64 0, .int .i8 lr] 47 (0, 0))) :
    Calls Tryz.prog 19 #[.pointer (some ⟨e, 0, none⟩), .agg #[.iface 127 (.pointer (some ⟨L, 0, none⟩)), .string ⟨#[91, 116]⟩], .int .i64 0] w fun e' w' => e' = .returned (.tuple #[]) ∧ Lib.IsBuffer 47 5 b b (Lib.byteCells (bl false 4 (8 * ms.length) ++ [0, 0, 0, 0] ++ ms.flatMap (bl false 8))) w' ∧ Below b w w' ∧ w'.heap[zb]? = some (.cells zo zT (0, 0)) := by
  have hf : (ms.flatMap (bl false 8)).length = 8 * ms.length := by have := flat_len (bl_len false 8) ms ms.length (Nat.le_refl _); rwa [List.take_length] at this
  rw [← hf]
  refine li 116 8 4 ⟨by omega, by omega⟩ (by omega) (by omega) ms _ (fun _ => rfl) (bl false 8) (bl_len _ _) hlen (bl false 4 (ms.flatMap (bl false 8)).length) [0, 0, 0, 0] (bl_len _ _ _) (by simp) (.iface 68 (.agg #[])) (.inr rfl) b e L cap A hbe w zb zo zT hzT hzb hzo hL he lr hb al_lt (vk_lt _ rfl)
    (fun W h => align0_calls W e _ _ _ 0 4 h (by omega) (by omega) (by omega) (by omega) (by omega)) (fun W h => pad0_calls W e _ _ _ 0 0 4 h (by omega) (by omega) (by omega) (by omega) (by omega) (by omega) (by omega)) (fun W h => (pad4_calls W e _ _ _ 0 4 h (by omega)).mono (fun _ _ h => h)) el_t al_t ?_ ?_ ?_ ?_
  · exact fun W g hO hE F hF hFn hg => ag8 _ (bl_len _ _ _) _ b e hbe W g hO hE F hF hFn hg
  · intro W Q hE hQ hW
    refine (en_u68 (ms.flatMap (bl false 8)).length (by omega) 0 (by omega) (by omega) W e b 0 hE (by omega) (by omega) (by omega) Q hQ (fun W1 hB a T ha hc => hW W1 hB a T ha (by rw [bl4f]; exact hc))).mono ?_
    rintro e' w' ⟨h1, w1, h2, h3⟩
    exact ⟨h1, w1, h2, h3⟩
  · exact fun W h i m hi => idx_t W L _ A cap _ h i (.int .u64 (m : Int)) (by rw [List.getElem?_map, hi]; rfl) (by rw [List.length_map]; omega)
  · intro bi ei m hm W pos hp hr Q hE hQ hW
    exact en_t68 m (hms m hm) 1 (by omega) (by omega) W ei bi (pos : Int) hE (by omega) (by omega) (by omega) Q hQ (fun W1 hB a T ha hc => hW W1 hB a T ha (by rw [bl8f]; exact hc))
set_option maxRecDepth 100000 in
set_option maxHeartbeats 4000000 in
theorem li_d67 (ms : List Nat) (hms : ∀ m ∈ ms, m < 18446744073709551616) (hlen : ms.length ≤ 200) (b e L cap : Nat) (A : Option Nat) (hbe : b < e) (w : World) (zb : Nat) (zo : Array Value) (zT : TypeId) (hzT : zT ≠ 5) (hzb : zb ≠ b ∧ zb ≠ e) (hzo : w.heap[zb]? = some (.cells zo zT (0, 0))) (hL : Ls w L ⟨#[100]⟩ A cap (ms.map fun m : Nat => .iface 91 (.float .f64 m))) (he : w.heap[e]? = some (.cells #[.iface 50 (.pointer (some ⟨b, 0, none⟩)), .slice none 0 0, .iface 67 (.agg #[]), .int .i64 (0)] 65 (0, 0))) (lr : Int) (hb : w.heap[b]? = some (.cells #[.slice none 0 0, .int .i64 0, .int .i8 lr] 47 (0, 0))) :
    Calls Tryz.prog 19 #[.pointer (some ⟨e, 0, none⟩), .agg #[.iface 127 (.pointer (some ⟨L, 0, none⟩)), .string ⟨#[91, 100]⟩], .int .i64 0] w fun e' w' => e' = .returned (.tuple #[]) ∧ Lib.IsBuffer 47 5 b b (Lib.byteCells (bl true 4 (8 * ms.length) ++ [0, 0, 0, 0] ++ ms.flatMap (bl true 8))) w' ∧ Below b w w' ∧ w'.heap[zb]? = some (.cells zo zT (0, 0)) := by
  have hf : (ms.flatMap (bl true 8)).length = 8 * ms.length := by have := flat_len (bl_len true 8) ms ms.length (Nat.le_refl _); rwa [List.take_length] at this
  rw [← hf]
  refine li 100 8 4 ⟨by omega, by omega⟩ (by omega) (by omega) ms _ (fun _ => rfl) (bl true 8) (bl_len _ _) hlen (bl true 4 (ms.flatMap (bl true 8)).length) [0, 0, 0, 0] (bl_len _ _ _) (by simp) (.iface 67 (.agg #[])) (.inl rfl) b e L cap A hbe w zb zo zT hzT hzb hzo hL he lr hb al_ld (vk_ld _ rfl)
    (fun W h => align0_calls W e _ _ _ 0 4 h (by omega) (by omega) (by omega) (by omega) (by omega)) (fun W h => pad0_calls W e _ _ _ 0 0 4 h (by omega) (by omega) (by omega) (by omega) (by omega) (by omega) (by omega)) (fun W h => (pad4_calls W e _ _ _ 0 4 h (by omega)).mono (fun _ _ h => h)) el_d al_d ?_ ?_ ?_ ?_
  · exact fun W g hO hE F hF hFn hg => ag8 _ (bl_len _ _ _) _ b e hbe W g hO hE F hF hFn hg
  · intro W Q hE hQ hW
    refine (en_u67 (ms.flatMap (bl true 8)).length (by omega) 0 (by omega) (by omega) W e b 0 hE (by omega) (by omega) (by omega) Q hQ (fun W1 hB a T ha hc => hW W1 hB a T ha (by rw [bl4t]; exact hc))).mono ?_
    rintro e' w' ⟨h1, w1, h2, h3⟩
    exact ⟨h1, w1, h2, h3⟩
  · exact fun W h i m hi => idx_d W L _ A cap _ h i (.float .f64 m) (by rw [List.getElem?_map, hi]; rfl) (by rw [List.length_map]; omega)
  · intro bi ei m hm W pos hp hr Q hE hQ hW
    exact en_d67 m (hms m hm) 1 (by omega) (by omega) W ei bi (pos : Int) hE (by omega) (by omega) (by omega) Q hQ (fun W1 hB a T ha hc => hW W1 hB a T ha (by rw [bl8t]; exact hc))
set_option maxRecDepth 100000 in
set_option maxHeartbeats 4000000 in
theorem li_d68 (ms : List Nat) (hms : ∀ m ∈ ms, m < 18446744073709551616) (hlen : ms.length ≤ 200) (b e L cap : Nat) (A : Option Nat) (hbe : b < e) (w : World) (zb : Nat) (zo : Array Value) (zT : TypeId) (hzT : zT ≠ 5) (hzb : zb ≠ b ∧ zb ≠ e) (hzo : w.heap[zb]? = some (.cells zo zT (0, 0))) (hL : Ls w L ⟨#[100]⟩ A cap (ms.map fun m : Nat => .iface 91 (.float .f64 m))) (he : w.heap[e]? = some (.cells #[.iface 50 (.pointer (some ⟨b, 0, none⟩)), .slice none 0 0, .iface 68 (.agg #[]), .int .i64 (0)] 65 (0, 0))) (lr : Int) (hb : w.heap[b]? = some (.cells #[.slice none 0 0, .int .i64 0, .int .i8 lr] 47 (0, 0))) :
    Calls Tryz.prog 19 #[.pointer (some ⟨e, 0, none⟩), .agg #[.iface 127 (.pointer (some ⟨L, 0, none⟩)), .string ⟨#[91, 100]⟩], .int .i64 0] w fun e' w' => e' = .returned (.tuple #[]) ∧ Lib.IsBuffer 47 5 b b (Lib.byteCells (bl false 4 (8 * ms.length) ++ [0, 0, 0, 0] ++ ms.flatMap (bl false 8))) w' ∧ Below b w w' ∧ w'.heap[zb]? = some (.cells zo zT (0, 0)) := by
  have hf : (ms.flatMap (bl false 8)).length = 8 * ms.length := by have := flat_len (bl_len false 8) ms ms.length (Nat.le_refl _); rwa [List.take_length] at this
  rw [← hf]
  refine li 100 8 4 ⟨by omega, by omega⟩ (by omega) (by omega) ms _ (fun _ => rfl) (bl false 8) (bl_len _ _) hlen (bl false 4 (ms.flatMap (bl false 8)).length) [0, 0, 0, 0] (bl_len _ _ _) (by simp) (.iface 68 (.agg #[])) (.inr rfl) b e L cap A hbe w zb zo zT hzT hzb hzo hL he lr hb al_ld (vk_ld _ rfl)
    (fun W h => align0_calls W e _ _ _ 0 4 h (by omega) (by omega) (by omega) (by omega) (by omega)) (fun W h => pad0_calls W e _ _ _ 0 0 4 h (by omega) (by omega) (by omega) (by omega) (by omega) (by omega) (by omega)) (fun W h => (pad4_calls W e _ _ _ 0 4 h (by omega)).mono (fun _ _ h => h)) el_d al_d ?_ ?_ ?_ ?_
  · exact fun W g hO hE F hF hFn hg => ag8 _ (bl_len _ _ _) _ b e hbe W g hO hE F hF hFn hg
  · intro W Q hE hQ hW
    refine (en_u68 (ms.flatMap (bl false 8)).length (by omega) 0 (by omega) (by omega) W e b 0 hE (by omega) (by omega) (by omega) Q hQ (fun W1 hB a T ha hc => hW W1 hB a T ha (by rw [bl4f]; exact hc))).mono ?_
    rintro e' w' ⟨h1, w1, h2, h3⟩
    exact ⟨h1, w1, h2, h3⟩
  · exact fun W h i m hi => idx_d W L _ A cap _ h i (.float .f64 m) (by rw [List.getElem?_map, hi]; rfl) (by rw [List.length_map]; omega)
  · intro bi ei m hm W pos hp hr Q hE hQ hW
    exact en_d68 m (hms m hm) 1 (by omega) (by omega) W ei bi (pos : Int) hE (by omega) (by omega) (by omega) Q hQ (fun W1 hB a T ha hc => hW W1 hB a T ha (by rw [bl8f]; exact hc))
set_option maxRecDepth 100000 in
set_option maxHeartbeats 4000000 in
theorem li_h67 (ms : List Nat) (hms : ∀ m ∈ ms, m < 4294967296) (hlen : ms.length ≤ 200) (b e L cap : Nat) (A : Option Nat) (hbe : b < e) (w : World) (zb : Nat) (zo : Array Value) (zT : TypeId) (hzT : zT ≠ 5) (hzb : zb ≠ b ∧ zb ≠ e) (hzo : w.heap[zb]? = some (.cells zo zT (0, 0))) (hL : Ls w L ⟨#[104]⟩ A cap (ms.map fun m : Nat => .iface 121 (.int .u32 (m : Int)))) (he : w.heap[e]? = some (.cells #[.iface 50 (.pointer (some ⟨b, 0, none⟩)), .slice none 0 0, .iface 67 (.agg #[]), .int .i64 (0)] 65 (0, 0))) (lr : Int) (hb : w.heap[b]? = some (.cells #[.slice none 0 0, .int .i64 0, .int .i8 lr] 47 (0, 0))) :
    Calls Tryz.prog 19 #[.pointer (some ⟨e, 0, none⟩), .agg #[.iface 127 (.pointer (some ⟨L, 0, none⟩)), .string ⟨#[91, 104]⟩], .int .i64 0] w fun e' w' => e' = .returned (.tuple #[]) ∧ Lib.IsBuffer 47 5 b b (Lib.byteCells (bl true 4 (4 * ms.length) ++ [] ++ ms.flatMap (bl true 4))) w' ∧ Below b w w' ∧ w'.heap[zb]? = some (.cells zo zT (0, 0)) := by
  have hf : (ms.flatMap (bl true 4)).length = 4 * ms.length := by have := flat_len (bl_len true 4) ms ms.length (Nat.le_refl _); rwa [List.take_length] at this
  rw [← hf]
  refine li 104 4 0 ⟨by omega, by omega⟩ (by omega) (by omega) ms _ (fun _ => rfl) (bl true 4) (bl_len _ _) hlen (bl true 4 (ms.flatMap (bl true 4)).length) [] (bl_len _ _ _) (by simp) (.iface 67 (.agg #[])) (.inl rfl) b e L cap A hbe w zb zo zT hzT hzb hzo hL he lr hb al_lh (vk_lh _ rfl)
    (fun W h => align0_calls W e _ _ _ 0 4 h (by omega) (by omega) (by omega) (by omega) (by omega)) (fun W h => pad0_calls W e _ _ _ 0 0 4 h (by omega) (by omega) (by omega) (by omega) (by omega) (by omega) (by omega)) (fun W h => (pad0_calls W e _ _ _ 0 4 4 h (by omega) (by omega) (by omega) (by omega) (by omega) (by omega) (by omega)).mono (fun _ _ h => h)) el_h al_h ?_ ?_ ?_ ?_
  · exact fun W g hO hE F hF _ _ => (align0_calls W e _ _ _ 4 4 hE (by omega) (by omega) (by omega) (by omega) (by omega)).mono (by rintro e' w' ⟨rfl, rfl⟩; exact ⟨rfl, by rw [List.append_nil]; exact hO, hE, hF, Below.refl _ _⟩)
  · intro W Q hE hQ hW
    refine (en_u67 (ms.flatMap (bl true 4)).length (by omega) 0 (by omega) (by omega) W e b 0 hE (by omega) (by omega) (by omega) Q hQ (fun W1 hB a T ha hc => hW W1 hB a T ha (by rw [bl4t]; exact hc))).mono ?_
    rintro e' w' ⟨h1, w1, h2, h3⟩
    exact ⟨h1, w1, h2, h3⟩
  · exact fun W h i m hi => idx_h W L _ A cap _ h i (.int .u32 (m : Int)) (by rw [List.getElem?_map, hi]; rfl) (by rw [List.length_map]; omega)
  · intro bi ei m hm W pos hp hr Q hE hQ hW
    exact en_h67 m (hms m hm) 1 (by omega) (by omega) W ei bi (pos : Int) hE (by omega) (by omega) (by omega) Q hQ (fun W1 hB a T ha hc => hW W1 hB a T ha (by rw [bl4t]; exact hc))
set_option maxRecDepth 100000 in
set_option maxHeartbeats 4000000 in
theorem li_h68 (ms : List Nat) (hms : ∀ m ∈ ms, m < 4294967296) (hlen : ms.length ≤ 200) (b e L cap : Nat) (A : Option Nat) (hbe : b < e) (w : World) (zb : Nat) (zo : Array Value) (zT : TypeId) (hzT : zT ≠ 5) (hzb : zb ≠ b ∧ zb ≠ e) (hzo : w.heap[zb]? = some (.cells zo zT (0, 0))) (hL : Ls w L ⟨#[104]⟩ A cap (ms.map fun m : Nat => .iface 121 (.int .u32 (m : Int)))) (he : w.heap[e]? = some (.cells #[.iface 50 (.pointer (some ⟨b, 0, none⟩)), .slice none 0 0, .iface 68 (.agg #[]), .int .i64 (0)] 65 (0, 0))) (lr : Int) (hb : w.heap[b]? = some (.cells #[.slice none 0 0, .int .i64 0, .int .i8 lr] 47 (0, 0))) :
    Calls Tryz.prog 19 #[.pointer (some ⟨e, 0, none⟩), .agg #[.iface 127 (.pointer (some ⟨L, 0, none⟩)), .string ⟨#[91, 104]⟩], .int .i64 0] w fun e' w' => e' = .returned (.tuple #[]) ∧ Lib.IsBuffer 47 5 b b (Lib.byteCells (bl false 4 (4 * ms.length) ++ [] ++ ms.flatMap (bl false 4))) w' ∧ Below b w w' ∧ w'.heap[zb]? = some (.cells zo zT (0, 0)) := by
  have hf : (ms.flatMap (bl false 4)).length = 4 * ms.length := by have := flat_len (bl_len false 4) ms ms.length (Nat.le_refl _); rwa [List.take_length] at this
  rw [← hf]
  refine li 104 4 0 ⟨by omega, by omega⟩ (by omega) (by omega) ms _ (fun _ => rfl) (bl false 4) (bl_len _ _) hlen (bl false 4 (ms.flatMap (bl false 4)).length) [] (bl_len _ _ _) (by simp) (.iface 68 (.agg #[])) (.inr rfl) b e L cap A hbe w zb zo zT hzT hzb hzo hL he lr hb al_lh (vk_lh _ rfl)
    (fun W h => align0_calls W e _ _ _ 0 4 h (by omega) (by omega) (by omega) (by omega) (by omega)) (fun W h => pad0_calls W e _ _ _ 0 0 4 h (by omega) (by omega) (by omega) (by omega) (by omega) (by omega) (by omega)) (fun W h => (pad0_calls W e _ _ _ 0 4 4 h (by omega) (by omega) (by omega) (by omega) (by omega) (by omega) (by omega)).mono (fun _ _ h => h)) el_h al_h ?_ ?_ ?_ ?_
  · exact fun W g hO hE F hF _ _ => (align0_calls W e _ _ _ 4 4 hE (by omega) (by omega) (by omega) (by omega) (by omega)).mono (by rintro e' w' ⟨rfl, rfl⟩; exact ⟨rfl, by rw [List.append_nil]; exact hO, hE, hF, Below.refl _ _⟩)
  · intro W Q hE hQ hW
    refine (en_u68 (ms.flatMap (bl false 4)).length (by omega) 0 (by omega) (by omega) W e b 0 hE (by omega) (by omega) (by omega) Q hQ (fun W1 hB a T ha hc => hW W1 hB a T ha (by rw [bl4f]; exact hc))).mono ?_
    rintro e' w' ⟨h1, w1, h2, h3⟩
    exact ⟨h1, w1, h2, h3⟩
  · exact fun W h i m hi => idx_h W L _ A cap _ h i (.int .u32 (m : Int)) (by rw [List.getElem?_map, hi]; rfl) (by rw [List.length_map]; omega)
  · intro bi ei m hm W pos hp hr Q hE hQ hW
    exact en_h68 m (hms m hm) 1 (by omega) (by omega) W ei bi (pos : Int) hE (by omega) (by omega) (by omega) Q hQ (fun W1 hB a T ha hc => hW W1 hB a T ha (by rw [bl4f]; exact hc))


end Go.Proofs.YtcnhpiodomknfaaGreatDoor.MFnWrTurned
