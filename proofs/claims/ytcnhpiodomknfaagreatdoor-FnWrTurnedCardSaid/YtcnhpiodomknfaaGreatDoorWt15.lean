-- A trial text of this session.
import Derived.Test.YtcnhpiodomknfaaGreatDoorWt14
namespace Go.Proofs.YtcnhpiodomknfaaGreatDoor.MFnWrTurned
open Go.RowKit Go.Proofs.YtcnhpiodomknfaaGreatDoorW.PrintWords Go.Proofs.YtcnhpiodomknfaaGreatDoorW.PrintLast Go.Proofs.YtcnhpiodomknfaaGreatDoorW.PrintMore
attribute [local go_sem] max2_int min2_int max_two min_two max_three min_three max_four min_four
set_option linter.unusedVariables false
set_option linter.unusedSimpArgs false

attribute [local go_sem] as2_2 as2_4 as2_5 as2_21 as2_25 as2_43 as2_87 as2_90 as2_121 as2_130 as2_131 as2_132 as5_2 as5_5 as5_21 as5_25 as5_43 as5_87 as5_90 as5_91 as5_137 as21_4 as21_5 as21_21 as21_25 as21_43 as21_87 as21_90 as21_121 as21_130 as21_131 as21_132 as25_2 as25_4 as25_5 as25_21 as25_25 as25_43 as25_87 as25_90 as25_130 as25_131 as25_132 as25_137 as43_4 as43_5 as43_25 as43_43 as43_87 as43_90 as43_121 as43_130 as43_131 as43_132 as87_2 as87_4 as87_5 as87_21 as87_43 as87_87 as87_90 as87_130 as87_131 as87_132 as87_137 as90_2 as90_4 as90_5 as90_21 as90_43 as90_90 as90_130 as90_131 as90_132 as90_137 as91_2 as91_4 as91_5 as91_21 as91_25 as91_43 as91_87 as91_90 as91_91 as91_121 as91_130 as91_131 as91_132 as91_137 as121_2 as121_4 as121_5 as121_9 as121_21 as121_25 as121_43 as121_87 as121_90 as121_91 as121_95 as121_103 as121_105 as121_121 as121_130 as121_131 as121_132 as121_137 as127_2 as127_4 as127_5 as127_9 as127_21 as127_24 as127_25 as127_43 as127_55 as127_87 as127_90 as127_91 as127_95 as127_103 as127_105 as127_121 as127_127 as127_130 as127_131 as127_132 as127_137 as127_146 as91_91f
set_option maxRecDepth 100000 in
set_option maxHeartbeats 16000000 in
theorem li (c : UInt8) (k pad : Nat) (hk : 1 ≤ k ∧ k ≤ 8) (hpad : pad ≤ 4) (hdvd : (4 + pad) % k = 0) (ms : List Nat) (va : Nat → Value) (hva : ∀ m, (va m).oneCell' = true) (bs : Nat → List UInt8) (hbs : ∀ m, (bs m).length = k) (hlen : ms.length ≤ 200)
    (hdr zs : List UInt8) (hh : hdr.length = 4) (hz : zs.length ≤ 8) (ord : Value) (ho : ord = .iface 67 (.agg #[]) ∨ ord = .iface 68 (.agg #[]))
    (b e L cap : Nat) (A : Option Nat) (hbe : b < e) (w : World) (zb : Nat) (zo : Array Value) (zT : TypeId) (hzT : zT ≠ 5) (hzb : zb ≠ b ∧ zb ≠ e) (hzo : w.heap[zb]? = some (.cells zo zT (0, 0))) (hL : Ls w L ⟨#[c]⟩ A cap (ms.map va)) (he : w.heap[e]? = some (.cells #[.iface 50 (.pointer (some ⟨b, 0, none⟩)), .slice none 0 0, ord, .int .i64 (0)] 65 (0, 0))) (lr : Int) (hb : w.heap[b]? = some (.cells #[.slice none 0 0, .int .i64 0, .int .i8 lr] 47 (0, 0)))
    (hALl : ∀ W, Calls Tryz.prog 23 #[.string ⟨#[91, c]⟩] W fun e w' => e = .returned (.int .i64 4) ∧ w' = W)
    (hVK : ∀ W, Calls Tryz.prog 25 #[(.agg #[.iface 127 (.pointer (some ⟨L, 0, none⟩)), .string ⟨#[91, c]⟩])] W fun e w' => e = .returned (.int .i64 16) ∧ Below W.heap.size W w')
    (hAG0 : ∀ W, W.heap[e]? = some (.cells #[.iface 50 (.pointer (some ⟨b, 0, none⟩)), .slice none 0 0, ord, .int .i64 (0)] 65 (0, 0)) → Calls Tryz.prog 22 #[.pointer (some ⟨e, 0, none⟩), .int .i64 4] W fun e' w' => e' = .returned (.tuple #[]) ∧ w' = W)
    (hPD0 : ∀ W, W.heap[e]? = some (.cells #[.iface 50 (.pointer (some ⟨b, 0, none⟩)), .slice none 0 0, ord, .int .i64 (0)] 65 (0, 0)) → Calls Tryz.prog 37 #[.pointer (some ⟨e, 0, none⟩), .int .i64 0, .int .i64 4] W fun e w' => e = .returned (.int .i64 0) ∧ w' = W)
    (hPD : ∀ W, W.heap[e]? = some (.cells #[.iface 50 (.pointer (some ⟨b, 0, none⟩)), .slice none 0 0, ord, .int .i64 (0)] 65 (0, 0)) → Calls Tryz.prog 37 #[.pointer (some ⟨e, 0, none⟩), .int .i64 4, .int .i64 (k : Int)] W fun e w' => e = .returned (.int .i64 (pad : Int)) ∧ w' = W)
    (hEL : ∀ W, Calls Tryz.prog 38 #[.string ⟨#[91, c]⟩] W fun e w' => e = .returned (.string ⟨#[c]⟩) ∧ w' = W) (hAL : ∀ W, Calls Tryz.prog 23 #[.string ⟨#[c]⟩] W fun e w' => e = .returned (.int .i64 (k : Int)) ∧ w' = W)
    (hAG : ∀ W g, Ob W b g (Lib.byteCells hdr) → W.heap[e]? = some (.cells #[.iface 50 (.pointer (some ⟨b, 0, none⟩)), .slice none 0 0, ord, .int .i64 (4)] 65 (0, 0)) → ∀ F, Fs W F → (∀ p ∈ F, p.1 ≠ g ∧ p.1 ≠ b ∧ p.1 ≠ e) → e ≠ g → Calls Tryz.prog 22 #[.pointer (some ⟨e, 0, none⟩), .int .i64 (k : Int)] W fun e' w' => e' = .returned (.tuple #[]) ∧ Ob w' b g (Lib.byteCells (hdr ++ zs)) ∧ w'.heap[e]? = some (.cells #[.iface 50 (.pointer (some ⟨b, 0, none⟩)), .slice none 0 0, ord, .int .i64 (4 + (pad : Int))] 65 (0, 0)) ∧ Fs w' F ∧ Below b W w')
    (hEU : ∀ W (Q : World → Prop), W.heap[e]? = some (.cells #[.iface 50 (.pointer (some ⟨b, 0, none⟩)), .slice none 0 0, ord, .int .i64 (0)] 65 (0, 0)) → (∀ w', Q w' → w'.heap[e]? = some (.cells #[.iface 50 (.pointer (some ⟨b, 0, none⟩)), .slice none 0 0, ord, .int .i64 (0)] 65 (0, 0))) → (∀ W1, Below W.heap.size W W1 → ∀ a T, W.heap.size ≤ a → W1.heap[a]? = some (.cells (Lib.byteCells hdr).toArray T (0, 0)) → Calls Tryz.prog 98 #[.pointer (some ⟨b, 0, none⟩), .slice (some ⟨a, 0, none⟩) 4 4] W1 fun e w' => e = .returned (.tuple #[.int .i64 4, .nilIface]) ∧ Q w') →
      Calls Tryz.prog 19 #[.pointer (some ⟨e, 0, none⟩), .agg #[.iface 87 (.int .u32 (ms.flatMap bs).length), .string ⟨#[117]⟩], .int .i64 0] W fun e' w' => e' = .returned (.tuple #[]) ∧ ∃ w1, Q w1 ∧ w' = w1.setCell ⟨e, 3, none⟩ (.int .i64 4))
    (HIX : ∀ W, Ls W L ⟨#[c]⟩ A cap (ms.map va) → ∀ (i : Nat) m, ms[i]? = some m → Calls Tryz.prog 39 #[(.agg #[.iface 127 (.pointer (some ⟨L, 0, none⟩)), .string ⟨#[91, c]⟩]), .int .i64 (i : Int)] W fun e w' => e = .returned (.agg #[va m, .string ⟨#[c]⟩]) ∧ Below W.heap.size W w')
    (HEN : ∀ bi ei m, m ∈ ms → ∀ (W : World) (pos : Nat), pos ≤ 90000 → pos % k = 0 → ∀ (Q : World → Prop), W.heap[ei]? = some (.cells #[.iface 50 (.pointer (some ⟨bi, 0, none⟩)), .slice none 0 0, ord, .int .i64 ((pos : Int))] 65 (0, 0)) → (∀ w', Q w' → w'.heap[ei]? = some (.cells #[.iface 50 (.pointer (some ⟨bi, 0, none⟩)), .slice none 0 0, ord, .int .i64 ((pos : Int))] 65 (0, 0))) →
      (∀ W1, Below W.heap.size W W1 → ∀ a T, W.heap.size ≤ a → W1.heap[a]? = some (.cells (Lib.byteCells (bs m)).toArray T (0, 0)) → Calls Tryz.prog 98 #[.pointer (some ⟨bi, 0, none⟩), .slice (some ⟨a, 0, none⟩) k k] W1 fun e w' => e = .returned (.tuple #[.int .i64 (k : Int), .nilIface]) ∧ Q w') →
      Calls Tryz.prog 19 #[.pointer (some ⟨ei, 0, none⟩), .agg #[va m, .string ⟨#[c]⟩], .int .i64 1] W fun e' w' => e' = .returned (.tuple #[]) ∧ ∃ w1, Q w1 ∧ w' = w1.setCell ⟨ei, 3, none⟩ (.int .i64 ((pos : Int) + (k : Int)))) :
    Calls Tryz.prog 19 #[.pointer (some ⟨e, 0, none⟩), (.agg #[.iface 127 (.pointer (some ⟨L, 0, none⟩)), .string ⟨#[91, c]⟩]), .int .i64 0] w fun e' w' => e' = .returned (.tuple #[]) ∧ Lib.IsBuffer 47 5 b b (Lib.byteCells (hdr ++ zs ++ ms.flatMap bs)) w' ∧ Below b w w' ∧ w'.heap[zb]? = some (.cells zo zT (0, 0)) := by
  have N0 := Aside0.mk (En.start (.iface 127 (.pointer (some ⟨L, 0, none⟩))) (.string ⟨#[91, c]⟩) he)
  have HES := Aside0.mk (Array.getElem?_eq_some_iff.1 he).1
  have y0 := N0.out.x0
  have y1 := N0.out.x1
  have T24 := Aside0.mk (fun W => ty_calls (.iface 127 (.pointer (some ⟨L, 0, none⟩))) rfl ⟨#[91, c]⟩ W)
  have HLS := Aside0.mk hL
  have HB0 := Aside0.mk hb
  have HZO := Aside0.mk hzo
  have A23 := Aside0.mk hALl
  have V25 := Aside0.mk hVK
  have A22 := Aside0.mk hAG0
  have P37 := Aside0.mk hPD0
  have PDk := Aside0.mk hPD
  have ELs := Aside0.mk hEL
  have ALs := Aside0.mk hAL
  have AGs := Aside0.mk hAG
  have EUs := Aside0.mk hEU
  have IXs := Aside0.mk HIX
  have ENs := Aside0.mk HEN
  clear hL he hb hzo hALl hVK hAG0 hPD0 hPD hEL hAL hAG hEU HIX HEN
  go_enter Tryz.func19, Tryz.ntmps19
  go_wp2_with (first
    | (go_at_call 24; refine (T24.out _).mono ?_; rintro e1 w2 ⟨rfl, hb⟩; have N1 := Aside0.mk (N0.out.step hb); have z0 := N1.out.x0; have z1 := N1.out.x1; clear hb)
    | (go_at_call 23; refine (A23.out _).mono ?_; rintro e1 w3 ⟨rfl, rfl⟩)
    | (go_at_call 22; refine (A22.out _ N1.out.2.1).mono ?_; rintro e1 w4 ⟨rfl, rfl⟩)
    | (go_at_call 25; refine (V25.out _).mono ?_; rintro e1 w5 ⟨rfl, hb⟩; have N2 := Aside0.mk (N1.out.step hb); have u0 := N2.out.x0; have u1 := N2.out.x1; clear hb)
    | (go_at_call 37; refine (P37.out _ N2.out.2.1).mono ?_; rintro e1 w6 ⟨rfl, rfl⟩))
  rename_i hKz
  have HKz := Aside0.mk hKz
  clear hKz
  refine r67 c (k : Int) (pad : Int) ⟨by omega, by omega⟩ w _ e _ _ _ _ rfl N2.out ELs.out ALs.out PDk.out _ _ ?_
  intro W7 v297 v298 v299 v300 v301 v302 v303 v304 v305 v306 v307 v308 v309 v310 hN7
  refine HKz.out _ _ ?_
  have N7 := Aside0.mk hN7
  clear hN7 HKz
  go_wp2_with fail
  rename_i hKz
  have HKz := Aside0.mk hKz
  clear hKz
  have hb8 := below_alloc (Below.refl W7.heap.size W7) (.cells #[.slice none 0 0, .int .i64 0, .int .i8 0] 47)
  refine r69 (4 + (pad : Int)) _ e W7.heap.size _ _ ord ho (up_heap2 hb8 N7.out.2.1) _ _ ?_
  intro W9 v311 v312 v313 v314 v315 v316 v317 v318 v319 v320 v321 hb9 hei9
  have hbi9 := up_heap2 hb9 (heap_alloc_new W7 (.cells #[.slice none 0 0, .int .i64 0, .int .i8 0] 47))
  have hsz8 : (W7.alloc (.cells #[.slice none 0 0, .int .i64 0, .int .i8 0] 47)).heap.size = W7.heap.size + 1 := by simp
  rw [hsz8] at hei9
  have hb79 := below_step hb8 hb9
  refine HKz.out _ _ ?_
  rw [hsz8]
  refine wp_seq_k fun Kz hKz => ?_
  have HKz := Aside0.mk hKz
  clear hKz
  have hx7 := N7.out.2.2.1
  have hf : (ms.flatMap bs).length = k * ms.length := by have := flat_len hbs ms ms.length (Nat.le_refl _); rwa [List.take_length] at this
  have hkl : k * ms.length ≤ 8 * 200 := Nat.mul_le_mul hk.2 hlen
  refine lp c k hk ms va hva bs hbs hlen (4 + pad) ⟨hdvd, by omega⟩ W7 L cap w.heap.size (W7.heap.size + 1) A (HLS.out.below N7.out.1) hx7 ord (by omega) IXs.out (ENs.out _ _) W9 hb79 (nil_isBuffer hbi9) hbi9 (by rw [show ((4 + pad : Nat) : Int) = 4 + (pad : Int) by push_cast; rfl]; exact hei9) _ _ ?_
  intro W10 v19 v322 v323 v324 v325 v326 v327 v328 v329 v330 v331 v332 v333 v334 hbl hIB hnil hei10
  refine HKz.out _ _ ?_
  obtain ⟨F0, hIn, hFs⟩ := inn_of hIB (fun h => hnil (by
    have h2 : (Lib.byteCells (ms.flatMap bs)).length = 0 := by rw [h]; rfl
    rw [Lib.byteCells_length, hf] at h2
    rcases Nat.mul_eq_zero.1 h2 with h3 | h3 <;> omega))
  have hlt7 : b < w.heap.size := (Array.getElem?_eq_some_iff.1 HB0.out).1
  have hle7 := HES.out
  have hzl : zb < w.heap.size := (Array.getElem?_eq_some_iff.1 HZO.out).1
  have hw7 := N7.out.2.2.2
  have hxs : w.heap.size < W7.heap.size := (Array.getElem?_eq_some_iff.1 hx7).1
  refine tl c k pad (by omega) hdr zs (ms.flatMap bs) hh (by omega) hz ord _ b e w.heap.size W7.heap.size (W7.heap.size + 1) L zb zo zT hzT ⟨hzb.1, hzb.2, by omega⟩ w hbe (by omega) (by omega) (by omega) (by omega) (by omega) W10 ((keep_below N7.out.1 (by omega)).trans ⟨hbl.os, hbl.tape, hbl.output, hbl.size, fun j hj => hbl.block j (by omega)⟩) (by have := hIB.lt; exact this) F0 hIn hFs ((hbl.block zb (by omega)).trans (up_heap2 N7.out.1 HZO.out)) ((hbl.block _ hxs).trans hx7) hei10 ((hbl.block e (by omega)).trans N7.out.2.1) lr ((hbl.block b (by omega)).trans (up_heap2 N7.out.1 HB0.out)) ELs.out ALs.out AGs.out EUs.out


end Go.Proofs.YtcnhpiodomknfaaGreatDoor.MFnWrTurned
