-- A trial text of this session.
import Derived.Test.YtcnhpiodomknfaaGreatDoorWt21
namespace Go.Proofs.YtcnhpiodomknfaaGreatDoor.MFnWrTurned
open Go.RowKit Go.Proofs.YtcnhpiodomknfaaGreatDoorW.PrintWords Go.Proofs.YtcnhpiodomknfaaGreatDoorW.PrintLast Go.Proofs.YtcnhpiodomknfaaGreatDoorW.PrintMore
attribute [local go_sem] max2_int min2_int max_two min_two max_three min_three max_four min_four
set_option linter.unusedVariables false
set_option linter.unusedSimpArgs false

def kd28 (c : Int) (N : Nat → Int) (m : Nat) : S28 := ⟨c, N m, ⟨#[]⟩, []⟩
def kd59 (c : Int) (N : Nat → Int) (m : Nat) : S59 := ⟨c, N m, ⟨#[]⟩, []⟩
theorem valIn_leaf (k : Nat) (a0 a1 : Int) : impl_valIn.f (k + 2) a0 a1 ⟨#[]⟩ [] = some (a0, a1, ⟨#[]⟩, []) := by
  simp [impl_valIn.f, impl_valIn.l0]
theorem rd28 (c : Int) (N : Nat → Int) (ms : List Nat) (i m : Nat) (h : ms[i]? = some m) : rd_T28 (ms.map (kd28 c N)) (i : Int) = kd28 c N m := by
  unfold rd_T28
  rw [Int.toNat_natCast, List.getD_eq_getElem?_getD, List.getElem?_map, h]
  rfl
theorem vi_loop (c : Int) (N : Nat → Int) (ms : List Nat) (hl : ms.length ≤ 200) (a b : Int) (s : ByteArray) : ∀ n i, i + n = ms.length → ∀ k, n + 3 ≤ k → impl_valIn.l0 k (ms.map (kd28 c N)) ((ms.map (kd28 c N)).length : Int) (i : Int) a b s ((ms.take i).map (kd59 c N)) = some (a, b, s, ms.map (kd59 c N))
  | 0, i, hi, k + 1, hk => by
    have : i = ms.length := by omega
    subst this
    simp [impl_valIn.l0]
  | n + 1, i, hi, k + 1, hk => by
    have hlt : i < ms.length := by omega
    obtain ⟨m, hm⟩ : ∃ m, ms[i]? = some m := ⟨ms[i], List.getElem?_eq_getElem hlt⟩
    obtain ⟨k2, rfl⟩ : ∃ k2, k = k2 + 2 := ⟨k - 2, by omega⟩
    have ih := vi_loop c N ms hl a b s n (i + 1) (by omega) (k2 + 2) (by omega)
    have hw : wrap64 ((i : Int) + 1) = ((i + 1 : Nat) : Int) := by unfold wrap64; omega
    have hac : (ms.take i).map (kd59 c N) ++ [kd59 c N m] = (ms.take (i + 1)).map (kd59 c N) := by rw [List.take_add_one, hm]; simp
    have hal : ((ms.take i).map (kd59 c N)).length < 2513169434916 := by simp; omega
    rw [impl_valIn.l0, if_pos (by simp; omega), if_pos (by omega), if_pos (by simp; omega), rd28 c N ms i m hm]
    show ((impl_valIn.f (k2 + 2) c (N m) ⟨#[]⟩ []).bind fun bt => _) = _
    rw [valIn_leaf, Option.bind_some, if_pos hal, hw]
    show impl_valIn.l0 _ _ _ _ _ _ _ ((ms.take i).map (kd59 c N) ++ [kd59 c N m]) = _
    rw [hac]
    exact ih
theorem valIn_list (c : Int) (N : Nat → Int) (ms : List Nat) (hl : ms.length ≤ 200) (a b : Int) (s : ByteArray) (k : Nat) (hk : 300 ≤ k) : impl_valIn.f k a b s (ms.map (kd28 c N)) = some (a, b, s, ms.map (kd59 c N)) := by
  obtain ⟨k, rfl⟩ : ∃ k2, k = k2 + 1 := ⟨k - 1, by omega⟩
  have h := vi_loop c N ms hl a b s ms.length 0 (by omega) k (by omega)
  simpa [impl_valIn.f] using h
theorem valsIn_one (c : Int) (N : Nat → Int) (ms : List Nat) (hl : ms.length ≤ 200) (a b : Int) (s : ByteArray) : impl_valsIn.f 400 [⟨a, b, s, ms.map (kd28 c N)⟩] = some [⟨a, b, s, ms.map (kd59 c N)⟩] := by
  have h1 : rd_T28 [(⟨a, b, s, ms.map (kd28 c N)⟩ : S28)] 0 = ⟨a, b, s, ms.map (kd28 c N)⟩ := rfl
  have h2 : wrap64 (0 + 1) = 1 := by unfold wrap64; omega
  unfold impl_valsIn.f
  rw [impl_valsIn.l0, if_pos (by simp), if_pos (by omega), if_pos (by simp), h1]
  show ((impl_valIn.f 399 a b s (ms.map (kd28 c N))).bind fun bt => _) = _
  rw [valIn_list c N ms hl a b s 399 (by omega), Option.bind_some, if_pos (by simp), h2, impl_valsIn.l0, if_neg (by simp)]
  rfl
theorem add_zero (ad : Addr) : ad.add 0 = ad := by unfold Addr.add; split <;> simp_all
set_option maxRecDepth 100000 in
set_option maxHeartbeats 16000000 in
theorem we1 (c : UInt8) (hc : c.toNat ≠ 123) (t : Bool) (N : Nat → Int) (d : TypeId) (u : Nat → Value) (ms : List Nat) (hlen : ms.length ≤ 200) (bs : List UInt8) (ord : Value) (ho : ord = .iface 67 (.agg #[]) ∨ ord = .iface 68 (.agg #[])) (hdor : ∀ W, Calls Tryz.prog 13 #[.bool t] W fun e w' => e = .returned ord ∧ w' = W)
    (hDT : ∀ W, Calls Tryz.prog 55 #[.string ⟨#[c]⟩] W fun e w' => e = .returned (.string ⟨#[c]⟩) ∧ Drawn0 W w')
    (hDI : ∀ m, m ∈ ms → ∀ A n3 c3 W, Calls Tryz.prog 21 #[.agg #[.int .u8 (c.toNat : Int), .int .u64 (N m), .string ⟨#[]⟩, .slice A n3 c3]] W fun e w' => e = .returned (.iface d (u m)) ∧ Below W.heap.size W w')
    (hZ : ∀ W L B cap2, Ls W L ⟨#[c]⟩ B cap2 (ms.map fun m => .iface d (u m)) → Calls Tryz.prog 20 #[.iface 127 (.pointer (some ⟨L, 0, none⟩))] W fun e w' => e = .returned (.agg #[.iface 127 (.pointer (some ⟨L, 0, none⟩)), .string ⟨#[91, c]⟩]) ∧ Below W.heap.size W w')
    (hLI : ∀ W b e L B cap2 zb, b < e → zb ≠ b ∧ zb ≠ e → W.heap[zb]? = some (.cells #[.nilIface] 38 (0, 0)) → Ls W L ⟨#[c]⟩ B cap2 (ms.map fun m => .iface d (u m)) → W.heap[e]? = some (.cells #[.iface 50 (.pointer (some ⟨b, 0, none⟩)), .slice none 0 0, ord, .int .i64 0] 65 (0, 0)) → W.heap[b]? = some (.cells #[.slice none 0 0, .int .i64 0, .int .i8 0] 47 (0, 0)) →
      Calls Tryz.prog 19 #[.pointer (some ⟨e, 0, none⟩), .agg #[.iface 127 (.pointer (some ⟨L, 0, none⟩)), .string ⟨#[91, c]⟩], .int .i64 0] W fun e' w' => e' = .returned (.tuple #[]) ∧ Lib.IsBuffer 47 5 b b (Lib.byteCells bs) w' ∧ Below b W w' ∧ w'.heap[zb]? = some (.cells #[.nilIface] 38 (0, 0)))
    (A : Option Addr) (cp : Nat) (hcp : 1 ≤ cp) (w : World) (hC : Kd.C k28 w A 1 [⟨97, 0, ⟨#[c]⟩, ms.map (kd28 (c.toNat : Int) N)⟩]) :
    Calls Tryz.prog 6 #[.slice A 1 cp, .bool t, .int .i64 0] w fun e w' => e = .returned (.tuple #[.string ⟨bs.toArray⟩, .bool true]) ∧ Below w.heap.size w w' := by
  have HV := Aside0.mk (impl_valsIn.calls 400 A cp [⟨97, 0, ⟨#[c]⟩, ms.map (kd28 (c.toNat : Int) N)⟩] _ w hC (by simpa using hcp) (valsIn_one (c.toNat : Int) N ms hlen 97 0 ⟨#[c]⟩))
  have HDE := Aside0.mk (fun (arg : Value) (W : World) hds => de1 c t ⟨#[91, c]⟩ (ms.map fun m => .iface d (u m)) bs arg W ord ho hdor hds hZ hLI)
  have HDL := Aside0.mk (fun A3 c3 W (hk : Kd.C k59 W A3 ms.length (ms.map (kd59 (c.toNat : Int) N))) => dl c hc N d u ms hlen hDT hDI A3 c3 0 W hk)
  clear hC hdor hDT hDI hZ hLI ho
  go_enter Tryz.func6, Tryz.ntmps6
  go_wp2_with fail
  refine HV.out.mono ?_
  rintro e1 w2 ⟨v0, rfl, hR, hb⟩
  obtain ⟨A1, c1, rfl, hc1, hC1⟩ := Kd.R_reads hR
  obtain ⟨ad, A3, c3, rfl, q0, q1, q2, q3, _, q5⟩ := at_T59 hC1 0 (by omega) (by simp)
  simp only [Int.toNat_zero, Nat.zero_mul, add_zero] at q0 q1 q2 q3
  have hrd : rd_T59 [(⟨97, 0, ⟨#[c]⟩, ms.map (kd59 (c.toNat : Int) N)⟩ : S59)] 0 = ⟨97, 0, ⟨#[c]⟩, ms.map (kd59 (c.toNat : Int) N)⟩ := rfl
  rw [hrd] at q0 q1 q2 q3 q5
  simp only [List.length_map] at q3 q5
  have HD := Aside0.mk (HDE.out (.slice (some ad) 1 c1) w2 (fun W hw => ds1 c 0 A3 ms.length c3 _ W ad c1 (pw_cell_below hw q0) (pw_cell_below hw q1) (pw_cell_below hw q2) (pw_cell_below hw q3) (fun W' hw' => HDL.out A3 c3 W' (Kd.C_below (Kd.C_below q5 hw) hw'))))
  have HB := Aside0.mk hb
  clear hR hC1 q0 q1 q2 q3 q5 hb hrd
  go_wp2_with (go_at_call 9; refine HD.out.mono ?_; rintro e1 w3 ⟨rfl, hb⟩; have HB3 := Aside0.mk (below_step HB.out hb); clear hb)
  go_region
  all_goals
    go_wp2
    go_ret2
    exact ⟨rfl, by repeat (first | exact HB3.out | apply below_drew1 | apply pw_below_drewN)⟩

end Go.Proofs.YtcnhpiodomknfaaGreatDoor.MFnWrTurned
