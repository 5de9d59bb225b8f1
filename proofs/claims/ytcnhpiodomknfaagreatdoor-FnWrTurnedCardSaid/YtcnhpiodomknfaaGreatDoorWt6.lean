-- A trial text of this session.
import Derived.Test.YtcnhpiodomknfaaGreatDoorWt5
namespace Go.Proofs.YtcnhpiodomknfaaGreatDoor.MFnWrTurned
open Go.RowKit Go.Proofs.YtcnhpiodomknfaaGreatDoorW.PrintWords Go.Proofs.YtcnhpiodomknfaaGreatDoorW.PrintLast Go.Proofs.YtcnhpiodomknfaaGreatDoorW.PrintMore
attribute [local go_sem] max2_int min2_int max_two min_two max_three min_three max_four min_four
set_option linter.unusedVariables false
set_option linter.unusedSimpArgs false

attribute [local go_sem] as2_2 as2_4 as2_5 as2_21 as2_25 as2_43 as2_87 as2_90 as2_121 as2_130 as2_131 as2_132 as5_2 as5_5 as5_21 as5_25 as5_43 as5_87 as5_90 as5_91 as5_137 as21_4 as21_5 as21_21 as21_25 as21_43 as21_87 as21_90 as21_121 as21_130 as21_131 as21_132 as25_2 as25_4 as25_5 as25_21 as25_25 as25_43 as25_87 as25_90 as25_130 as25_131 as25_132 as25_137 as43_4 as43_5 as43_25 as43_43 as43_87 as43_90 as43_121 as43_130 as43_131 as43_132 as87_2 as87_4 as87_5 as87_21 as87_43 as87_87 as87_90 as87_130 as87_131 as87_132 as87_137 as90_2 as90_4 as90_5 as90_21 as90_43 as90_90 as90_130 as90_131 as90_132 as90_137 as91_2 as91_4 as91_5 as91_21 as91_25 as91_43 as91_87 as91_90 as91_91 as91_121 as91_130 as91_131 as91_132 as91_137 as121_2 as121_4 as121_5 as121_9 as121_21 as121_25 as121_43 as121_87 as121_90 as121_91 as121_95 as121_103 as121_105 as121_121 as121_130 as121_131 as121_132 as121_137 as127_2 as127_4 as127_5 as127_9 as127_21 as127_24 as127_25 as127_43 as127_55 as127_87 as127_90 as127_91 as127_95 as127_103 as127_105 as127_121 as127_127 as127_130 as127_131 as127_132 as127_137 as127_146 as91_91f
/-- A list: its block holds its element's type and its slice; the slice's cells are vs. -/
def Ls (w : World) (L : Nat) (S : ByteArray) (A : Option Nat) (cap : Nat) (vs : List Value) : Prop :=
  w.heap[L]? = some (.cells #[.string S, .slice (A.map fun g => ⟨g, 0, none⟩) vs.length cap] 129 (0, 0)) ∧ ∀ j v, vs[j]? = some v → ∃ g, A = some g ∧ w.cell? ⟨g, j, none⟩ = some v
theorem Ls.below {w W : World} {L : Nat} {S : ByteArray} {A : Option Nat} {cap : Nat} {vs : List Value} (h : Ls w L S A cap vs) (hb : Below w.heap.size w W) : Ls W L S A cap vs :=
  ⟨(hb.block L (Array.getElem?_eq_some_iff.1 h.1).1).trans h.1, fun j v hj => by obtain ⟨p, hp, hc⟩ := h.2 j v hj; exact ⟨p, hp, pw_cell_below hb hc⟩⟩
theorem Ls.drew {w : World} {L : Nat} {S : ByteArray} {A : Option Nat} {cap : Nat} {vs : List Value} (h : Ls w L S A cap vs) : Ls w.drew L S A cap vs := h
theorem Ls.c0 {w : World} {L : Nat} {S : ByteArray} {A : Option Nat} {cap : Nat} {vs : List Value} (h : Ls w L S A cap vs) : w.cell? ⟨L, 0, none⟩ = some (.string S) := (cell_of_row w L 0 _ 129 (0, 0) h.1).trans rfl
theorem Ls.c1 {w : World} {L : Nat} {S : ByteArray} {A : Option Nat} {cap : Nat} {vs : List Value} (h : Ls w L S A cap vs) : w.cell? ⟨L, 1, none⟩ = some (.slice (A.map fun g => ⟨g, 0, none⟩) vs.length cap) := (cell_of_row w L 1 _ 129 (0, 0) h.1).trans rfl
set_option maxRecDepth 100000 in
set_option maxHeartbeats 4000000 in
theorem kids_calls (w : World) (L : Nat) (S : ByteArray) (A : Option Nat) (cap : Nat) (vs : List Value) (h : Ls w L S A cap vs) : Calls Tryz.prog 63 #[.iface 127 (.pointer (some ⟨L, 0, none⟩))] w fun e w' => e = .returned (.slice (A.map fun g => ⟨g, 0, none⟩) vs.length cap) ∧ w' = w := by
  have c1 := h.c1
  clear h
  go_enter Tryz.func63, Tryz.ntmps63
  go_wp2
  go_ret
  exact ⟨rfl, rfl⟩
set_option maxRecDepth 100000 in
set_option maxHeartbeats 4000000 in
theorem len_calls (w : World) (L : Nat) (S S2 : ByteArray) (A : Option Nat) (cap : Nat) (vs : List Value) (h : Ls w L S A cap vs) : Calls Tryz.prog 35 #[.agg #[.iface 127 (.pointer (some ⟨L, 0, none⟩)), .string S2]] w fun e w' => e = .returned (.int .i64 (vs.length : Int)) ∧ Below w.heap.size w w' := by
  have H := Aside0.mk (kids_calls _ L S A cap vs (h.below (below_alloc (Below.refl _ _) (.cells #[.iface 127 (.pointer (some ⟨L, 0, none⟩)), .string S2] 73))))
  clear h
  go_enter Tryz.func35, Tryz.ntmps35
  go_wp2_with (go_at_call 63; refine H.out.mono ?_; rintro e w2 ⟨rfl, rfl⟩)
  go_ret
  exact ⟨rfl, below_alloc (Below.refl _ _) _⟩
set_option maxRecDepth 100000 in
set_option maxHeartbeats 4000000 in
theorem el_y (w : World) : Calls Tryz.prog 38 #[.string ⟨#[91, 121]⟩] w fun e w' => e = .returned (.string ⟨#[121]⟩) ∧ w' = w := by
  go_enter Tryz.func38, Tryz.ntmps38
  go_wp2_with (go_at_call 57; refine (ki_ly _).mono ?_; rintro e w2 ⟨rfl, rfl⟩)
  go_ret
  exact ⟨rfl, rfl⟩
set_option maxRecDepth 100000 in
set_option maxHeartbeats 4000000 in
theorem idx_y (w : World) (L : Nat) (S : ByteArray) (A : Option Nat) (cap : Nat) (vs : List Value) (h : Ls w L S A cap vs) (i : Nat) (u : Value) (hi : vs[i]? = some (.iface 5 u)) (hlen : vs.length ≤ 1000) : Calls Tryz.prog 39 #[.agg #[.iface 127 (.pointer (some ⟨L, 0, none⟩)), .string ⟨#[91, 121]⟩], .int .i64 (i : Int)] w fun e w' => e = .returned (.agg #[.iface 5 u, .string ⟨#[121]⟩]) ∧ Below w.heap.size w w' := by
  obtain ⟨p, rfl, hc⟩ := h.2 i _ hi
  have hil : i < vs.length := (List.getElem?_eq_some_iff.1 hi).1
  have hb := below_alloc (below_alloc (Below.refl w.heap.size w) (.cells #[.iface 127 (.pointer (some ⟨L, 0, none⟩)), .string ⟨#[91, 121]⟩] 73)) (.cells #[.nilIface, .string ⟨#[]⟩] 73)
  have HK := Aside0.mk (kids_calls _ L S (some p) cap vs (h.below hb).drew)
  have c0 := pw_cell_below hb hc
  have c0d : ∀ o o2, ((w.alloc o).alloc o2).drew.cell? ⟨p, i, none⟩ = some (.iface 5 u) := fun o o2 => pw_cell_below (below_alloc (below_alloc (Below.refl _ _) o) o2) hc
  have hi0 : (0 : Int) ≤ (i : Int) := by omega
  have hi1 : (i : Int) < (vs.length : Int) := by omega
  have hi2 : decide ((i : Int) < (vs.length : Int)) = true := by simpa using hil
  clear h hi hc hb
  go_enter Tryz.func39, Tryz.ntmps39
  go_wp2
  have hk := HK.out
  simp only [Option.map_some] at hk
  have HK := Aside0.mk hk
  clear hk
  go_region_with (first | (go_at_call 63; refine HK.out.mono ?_; rintro e w2 ⟨rfl, rfl⟩) | (go_at_call 38; refine (el_y _).mono ?_; rintro e w2 ⟨rfl, rfl⟩))
  all_goals
    go_wp2
    refine bodyPost_ret (results_cell_row rfl _ _ (w.heap.size + 1) 73 _ (0, 0) _ rfl (heap_alloc2_new _ _ _) Tryz.underlying73 rfl inf73) rfl ?_
    exact ⟨rfl, by repeat (first | exact below_alloc (below_alloc (Below.refl _ _) _) _ | apply below_drew1)⟩
set_option maxRecDepth 100000 in
set_option maxHeartbeats 4000000 in
theorem el_n (w : World) : Calls Tryz.prog 38 #[.string ⟨#[91, 110]⟩] w fun e w' => e = .returned (.string ⟨#[110]⟩) ∧ w' = w := by
  go_enter Tryz.func38, Tryz.ntmps38
  go_wp2_with (go_at_call 57; refine (ki_ln _).mono ?_; rintro e w2 ⟨rfl, rfl⟩)
  go_ret
  exact ⟨rfl, rfl⟩
set_option maxRecDepth 100000 in
set_option maxHeartbeats 4000000 in
theorem idx_n (w : World) (L : Nat) (S : ByteArray) (A : Option Nat) (cap : Nat) (vs : List Value) (h : Ls w L S A cap vs) (i : Nat) (u : Value) (hi : vs[i]? = some (.iface 43 u)) (hlen : vs.length ≤ 1000) : Calls Tryz.prog 39 #[.agg #[.iface 127 (.pointer (some ⟨L, 0, none⟩)), .string ⟨#[91, 110]⟩], .int .i64 (i : Int)] w fun e w' => e = .returned (.agg #[.iface 43 u, .string ⟨#[110]⟩]) ∧ Below w.heap.size w w' := by
  obtain ⟨p, rfl, hc⟩ := h.2 i _ hi
  have hil : i < vs.length := (List.getElem?_eq_some_iff.1 hi).1
  have hb := below_alloc (below_alloc (Below.refl w.heap.size w) (.cells #[.iface 127 (.pointer (some ⟨L, 0, none⟩)), .string ⟨#[91, 110]⟩] 73)) (.cells #[.nilIface, .string ⟨#[]⟩] 73)
  have HK := Aside0.mk (kids_calls _ L S (some p) cap vs (h.below hb).drew)
  have c0 := pw_cell_below hb hc
  have c0d : ∀ o o2, ((w.alloc o).alloc o2).drew.cell? ⟨p, i, none⟩ = some (.iface 43 u) := fun o o2 => pw_cell_below (below_alloc (below_alloc (Below.refl _ _) o) o2) hc
  have hi0 : (0 : Int) ≤ (i : Int) := by omega
  have hi1 : (i : Int) < (vs.length : Int) := by omega
  have hi2 : decide ((i : Int) < (vs.length : Int)) = true := by simpa using hil
  clear h hi hc hb
  go_enter Tryz.func39, Tryz.ntmps39
  go_wp2
  have hk := HK.out
  simp only [Option.map_some] at hk
  have HK := Aside0.mk hk
  clear hk
  go_region_with (first | (go_at_call 63; refine HK.out.mono ?_; rintro e w2 ⟨rfl, rfl⟩) | (go_at_call 38; refine (el_n _).mono ?_; rintro e w2 ⟨rfl, rfl⟩))
  all_goals
    go_wp2
    refine bodyPost_ret (results_cell_row rfl _ _ (w.heap.size + 1) 73 _ (0, 0) _ rfl (heap_alloc2_new _ _ _) Tryz.underlying73 rfl inf73) rfl ?_
    exact ⟨rfl, by repeat (first | exact below_alloc (below_alloc (Below.refl _ _) _) _ | apply below_drew1)⟩
set_option maxRecDepth 100000 in
set_option maxHeartbeats 4000000 in
theorem el_q (w : World) : Calls Tryz.prog 38 #[.string ⟨#[91, 113]⟩] w fun e w' => e = .returned (.string ⟨#[113]⟩) ∧ w' = w := by
  go_enter Tryz.func38, Tryz.ntmps38
  go_wp2_with (go_at_call 57; refine (ki_lq _).mono ?_; rintro e w2 ⟨rfl, rfl⟩)
  go_ret
  exact ⟨rfl, rfl⟩
set_option maxRecDepth 100000 in
set_option maxHeartbeats 4000000 in
theorem idx_q (w : World) (L : Nat) (S : ByteArray) (A : Option Nat) (cap : Nat) (vs : List Value) (h : Ls w L S A cap vs) (i : Nat) (u : Value) (hi : vs[i]? = some (.iface 90 u)) (hlen : vs.length ≤ 1000) : Calls Tryz.prog 39 #[.agg #[.iface 127 (.pointer (some ⟨L, 0, none⟩)), .string ⟨#[91, 113]⟩], .int .i64 (i : Int)] w fun e w' => e = .returned (.agg #[.iface 90 u, .string ⟨#[113]⟩]) ∧ Below w.heap.size w w' := by
  obtain ⟨p, rfl, hc⟩ := h.2 i _ hi
  have hil : i < vs.length := (List.getElem?_eq_some_iff.1 hi).1
  have hb := below_alloc (below_alloc (Below.refl w.heap.size w) (.cells #[.iface 127 (.pointer (some ⟨L, 0, none⟩)), .string ⟨#[91, 113]⟩] 73)) (.cells #[.nilIface, .string ⟨#[]⟩] 73)
  have HK := Aside0.mk (kids_calls _ L S (some p) cap vs (h.below hb).drew)
  have c0 := pw_cell_below hb hc
  have c0d : ∀ o o2, ((w.alloc o).alloc o2).drew.cell? ⟨p, i, none⟩ = some (.iface 90 u) := fun o o2 => pw_cell_below (below_alloc (below_alloc (Below.refl _ _) o) o2) hc
  have hi0 : (0 : Int) ≤ (i : Int) := by omega
  have hi1 : (i : Int) < (vs.length : Int) := by omega
  have hi2 : decide ((i : Int) < (vs.length : Int)) = true := by simpa using hil
  clear h hi hc hb
  go_enter Tryz.func39, Tryz.ntmps39
  go_wp2
  have hk := HK.out
  simp only [Option.map_some] at hk
  have HK := Aside0.mk hk
  clear hk
  go_region_with (first | (go_at_call 63; refine HK.out.mono ?_; rintro e w2 ⟨rfl, rfl⟩) | (go_at_call 38; refine (el_q _).mono ?_; rintro e w2 ⟨rfl, rfl⟩))
  all_goals
    go_wp2
    refine bodyPost_ret (results_cell_row rfl _ _ (w.heap.size + 1) 73 _ (0, 0) _ rfl (heap_alloc2_new _ _ _) Tryz.underlying73 rfl inf73) rfl ?_
    exact ⟨rfl, by repeat (first | exact below_alloc (below_alloc (Below.refl _ _) _) _ | apply below_drew1)⟩
set_option maxRecDepth 100000 in
set_option maxHeartbeats 4000000 in
theorem el_i (w : World) : Calls Tryz.prog 38 #[.string ⟨#[91, 105]⟩] w fun e w' => e = .returned (.string ⟨#[105]⟩) ∧ w' = w := by
  go_enter Tryz.func38, Tryz.ntmps38
  go_wp2_with (go_at_call 57; refine (ki_li _).mono ?_; rintro e w2 ⟨rfl, rfl⟩)
  go_ret
  exact ⟨rfl, rfl⟩
set_option maxRecDepth 100000 in
set_option maxHeartbeats 4000000 in
theorem idx_i (w : World) (L : Nat) (S : ByteArray) (A : Option Nat) (cap : Nat) (vs : List Value) (h : Ls w L S A cap vs) (i : Nat) (u : Value) (hi : vs[i]? = some (.iface 21 u)) (hlen : vs.length ≤ 1000) : Calls Tryz.prog 39 #[.agg #[.iface 127 (.pointer (some ⟨L, 0, none⟩)), .string ⟨#[91, 105]⟩], .int .i64 (i : Int)] w fun e w' => e = .returned (.agg #[.iface 21 u, .string ⟨#[105]⟩]) ∧ Below w.heap.size w w' := by
  obtain ⟨p, rfl, hc⟩ := h.2 i _ hi
  have hil : i < vs.length := (List.getElem?_eq_some_iff.1 hi).1
  have hb := below_alloc (below_alloc (Below.refl w.heap.size w) (.cells #[.iface 127 (.pointer (some ⟨L, 0, none⟩)), .string ⟨#[91, 105]⟩] 73)) (.cells #[.nilIface, .string ⟨#[]⟩] 73)
  have HK := Aside0.mk (kids_calls _ L S (some p) cap vs (h.below hb).drew)
  have c0 := pw_cell_below hb hc
  have c0d : ∀ o o2, ((w.alloc o).alloc o2).drew.cell? ⟨p, i, none⟩ = some (.iface 21 u) := fun o o2 => pw_cell_below (below_alloc (below_alloc (Below.refl _ _) o) o2) hc
  have hi0 : (0 : Int) ≤ (i : Int) := by omega
  have hi1 : (i : Int) < (vs.length : Int) := by omega
  have hi2 : decide ((i : Int) < (vs.length : Int)) = true := by simpa using hil
  clear h hi hc hb
  go_enter Tryz.func39, Tryz.ntmps39
  go_wp2
  have hk := HK.out
  simp only [Option.map_some] at hk
  have HK := Aside0.mk hk
  clear hk
  go_region_with (first | (go_at_call 63; refine HK.out.mono ?_; rintro e w2 ⟨rfl, rfl⟩) | (go_at_call 38; refine (el_i _).mono ?_; rintro e w2 ⟨rfl, rfl⟩))
  all_goals
    go_wp2
    refine bodyPost_ret (results_cell_row rfl _ _ (w.heap.size + 1) 73 _ (0, 0) _ rfl (heap_alloc2_new _ _ _) Tryz.underlying73 rfl inf73) rfl ?_
    exact ⟨rfl, by repeat (first | exact below_alloc (below_alloc (Below.refl _ _) _) _ | apply below_drew1)⟩
set_option maxRecDepth 100000 in
set_option maxHeartbeats 4000000 in
theorem el_u (w : World) : Calls Tryz.prog 38 #[.string ⟨#[91, 117]⟩] w fun e w' => e = .returned (.string ⟨#[117]⟩) ∧ w' = w := by
  go_enter Tryz.func38, Tryz.ntmps38
  go_wp2_with (go_at_call 57; refine (ki_lu _).mono ?_; rintro e w2 ⟨rfl, rfl⟩)
  go_ret
  exact ⟨rfl, rfl⟩
set_option maxRecDepth 100000 in
set_option maxHeartbeats 4000000 in
theorem idx_u (w : World) (L : Nat) (S : ByteArray) (A : Option Nat) (cap : Nat) (vs : List Value) (h : Ls w L S A cap vs) (i : Nat) (u : Value) (hi : vs[i]? = some (.iface 87 u)) (hlen : vs.length ≤ 1000) : Calls Tryz.prog 39 #[.agg #[.iface 127 (.pointer (some ⟨L, 0, none⟩)), .string ⟨#[91, 117]⟩], .int .i64 (i : Int)] w fun e w' => e = .returned (.agg #[.iface 87 u, .string ⟨#[117]⟩]) ∧ Below w.heap.size w w' := by
  obtain ⟨p, rfl, hc⟩ := h.2 i _ hi
  have hil : i < vs.length := (List.getElem?_eq_some_iff.1 hi).1
  have hb := below_alloc (below_alloc (Below.refl w.heap.size w) (.cells #[.iface 127 (.pointer (some ⟨L, 0, none⟩)), .string ⟨#[91, 117]⟩] 73)) (.cells #[.nilIface, .string ⟨#[]⟩] 73)
  have HK := Aside0.mk (kids_calls _ L S (some p) cap vs (h.below hb).drew)
  have c0 := pw_cell_below hb hc
  have c0d : ∀ o o2, ((w.alloc o).alloc o2).drew.cell? ⟨p, i, none⟩ = some (.iface 87 u) := fun o o2 => pw_cell_below (below_alloc (below_alloc (Below.refl _ _) o) o2) hc
  have hi0 : (0 : Int) ≤ (i : Int) := by omega
  have hi1 : (i : Int) < (vs.length : Int) := by omega
  have hi2 : decide ((i : Int) < (vs.length : Int)) = true := by simpa using hil
  clear h hi hc hb
  go_enter Tryz.func39, Tryz.ntmps39
  go_wp2
  have hk := HK.out
  simp only [Option.map_some] at hk
  have HK := Aside0.mk hk
  clear hk
  go_region_with (first | (go_at_call 63; refine HK.out.mono ?_; rintro e w2 ⟨rfl, rfl⟩) | (go_at_call 38; refine (el_u _).mono ?_; rintro e w2 ⟨rfl, rfl⟩))
  all_goals
    go_wp2
    refine bodyPost_ret (results_cell_row rfl _ _ (w.heap.size + 1) 73 _ (0, 0) _ rfl (heap_alloc2_new _ _ _) Tryz.underlying73 rfl inf73) rfl ?_
    exact ⟨rfl, by repeat (first | exact below_alloc (below_alloc (Below.refl _ _) _) _ | apply below_drew1)⟩
set_option maxRecDepth 100000 in
set_option maxHeartbeats 4000000 in
theorem el_x (w : World) : Calls Tryz.prog 38 #[.string ⟨#[91, 120]⟩] w fun e w' => e = .returned (.string ⟨#[120]⟩) ∧ w' = w := by
  go_enter Tryz.func38, Tryz.ntmps38
  go_wp2_with (go_at_call 57; refine (ki_lx _).mono ?_; rintro e w2 ⟨rfl, rfl⟩)
  go_ret
  exact ⟨rfl, rfl⟩
set_option maxRecDepth 100000 in
set_option maxHeartbeats 4000000 in
theorem idx_x (w : World) (L : Nat) (S : ByteArray) (A : Option Nat) (cap : Nat) (vs : List Value) (h : Ls w L S A cap vs) (i : Nat) (u : Value) (hi : vs[i]? = some (.iface 2 u)) (hlen : vs.length ≤ 1000) : Calls Tryz.prog 39 #[.agg #[.iface 127 (.pointer (some ⟨L, 0, none⟩)), .string ⟨#[91, 120]⟩], .int .i64 (i : Int)] w fun e w' => e = .returned (.agg #[.iface 2 u, .string ⟨#[120]⟩]) ∧ Below w.heap.size w w' := by
  obtain ⟨p, rfl, hc⟩ := h.2 i _ hi
  have hil : i < vs.length := (List.getElem?_eq_some_iff.1 hi).1
  have hb := below_alloc (below_alloc (Below.refl w.heap.size w) (.cells #[.iface 127 (.pointer (some ⟨L, 0, none⟩)), .string ⟨#[91, 120]⟩] 73)) (.cells #[.nilIface, .string ⟨#[]⟩] 73)
  have HK := Aside0.mk (kids_calls _ L S (some p) cap vs (h.below hb).drew)
  have c0 := pw_cell_below hb hc
  have c0d : ∀ o o2, ((w.alloc o).alloc o2).drew.cell? ⟨p, i, none⟩ = some (.iface 2 u) := fun o o2 => pw_cell_below (below_alloc (below_alloc (Below.refl _ _) o) o2) hc
  have hi0 : (0 : Int) ≤ (i : Int) := by omega
  have hi1 : (i : Int) < (vs.length : Int) := by omega
  have hi2 : decide ((i : Int) < (vs.length : Int)) = true := by simpa using hil
  clear h hi hc hb
  go_enter Tryz.func39, Tryz.ntmps39
  go_wp2
  have hk := HK.out
  simp only [Option.map_some] at hk
  have HK := Aside0.mk hk
  clear hk
  go_region_with (first | (go_at_call 63; refine HK.out.mono ?_; rintro e w2 ⟨rfl, rfl⟩) | (go_at_call 38; refine (el_x _).mono ?_; rintro e w2 ⟨rfl, rfl⟩))
  all_goals
    go_wp2
    refine bodyPost_ret (results_cell_row rfl _ _ (w.heap.size + 1) 73 _ (0, 0) _ rfl (heap_alloc2_new _ _ _) Tryz.underlying73 rfl inf73) rfl ?_
    exact ⟨rfl, by repeat (first | exact below_alloc (below_alloc (Below.refl _ _) _) _ | apply below_drew1)⟩
set_option maxRecDepth 100000 in
set_option maxHeartbeats 4000000 in
theorem el_t (w : World) : Calls Tryz.prog 38 #[.string ⟨#[91, 116]⟩] w fun e w' => e = .returned (.string ⟨#[116]⟩) ∧ w' = w := by
  go_enter Tryz.func38, Tryz.ntmps38
  go_wp2_with (go_at_call 57; refine (ki_lt _).mono ?_; rintro e w2 ⟨rfl, rfl⟩)
  go_ret
  exact ⟨rfl, rfl⟩
set_option maxRecDepth 100000 in
set_option maxHeartbeats 4000000 in
theorem idx_t (w : World) (L : Nat) (S : ByteArray) (A : Option Nat) (cap : Nat) (vs : List Value) (h : Ls w L S A cap vs) (i : Nat) (u : Value) (hi : vs[i]? = some (.iface 25 u)) (hlen : vs.length ≤ 1000) : Calls Tryz.prog 39 #[.agg #[.iface 127 (.pointer (some ⟨L, 0, none⟩)), .string ⟨#[91, 116]⟩], .int .i64 (i : Int)] w fun e w' => e = .returned (.agg #[.iface 25 u, .string ⟨#[116]⟩]) ∧ Below w.heap.size w w' := by
  obtain ⟨p, rfl, hc⟩ := h.2 i _ hi
  have hil : i < vs.length := (List.getElem?_eq_some_iff.1 hi).1
  have hb := below_alloc (below_alloc (Below.refl w.heap.size w) (.cells #[.iface 127 (.pointer (some ⟨L, 0, none⟩)), .string ⟨#[91, 116]⟩] 73)) (.cells #[.nilIface, .string ⟨#[]⟩] 73)
  have HK := Aside0.mk (kids_calls _ L S (some p) cap vs (h.below hb).drew)
  have c0 := pw_cell_below hb hc
  have c0d : ∀ o o2, ((w.alloc o).alloc o2).drew.cell? ⟨p, i, none⟩ = some (.iface 25 u) := fun o o2 => pw_cell_below (below_alloc (below_alloc (Below.refl _ _) o) o2) hc
  have hi0 : (0 : Int) ≤ (i : Int) := by omega
  have hi1 : (i : Int) < (vs.length : Int) := by omega
  have hi2 : decide ((i : Int) < (vs.length : Int)) = true := by simpa using hil
  clear h hi hc hb
  go_enter Tryz.func39, Tryz.ntmps39
  go_wp2
  have hk := HK.out
  simp only [Option.map_some] at hk
  have HK := Aside0.mk hk
  clear hk
  go_region_with (first | (go_at_call 63; refine HK.out.mono ?_; rintro e w2 ⟨rfl, rfl⟩) | (go_at_call 38; refine (el_t _).mono ?_; rintro e w2 ⟨rfl, rfl⟩))
  all_goals
    go_wp2
    refine bodyPost_ret (results_cell_row rfl _ _ (w.heap.size + 1) 73 _ (0, 0) _ rfl (heap_alloc2_new _ _ _) Tryz.underlying73 rfl inf73) rfl ?_
    exact ⟨rfl, by repeat (first | exact below_alloc (below_alloc (Below.refl _ _) _) _ | apply below_drew1)⟩
set_option maxRecDepth 100000 in
set_option maxHeartbeats 4000000 in
theorem el_d (w : World) : Calls Tryz.prog 38 #[.string ⟨#[91, 100]⟩] w fun e w' => e = .returned (.string ⟨#[100]⟩) ∧ w' = w := by
  go_enter Tryz.func38, Tryz.ntmps38
  go_wp2_with (go_at_call 57; refine (ki_ld _).mono ?_; rintro e w2 ⟨rfl, rfl⟩)
  go_ret
  exact ⟨rfl, rfl⟩
set_option maxRecDepth 100000 in
set_option maxHeartbeats 4000000 in
theorem idx_d (w : World) (L : Nat) (S : ByteArray) (A : Option Nat) (cap : Nat) (vs : List Value) (h : Ls w L S A cap vs) (i : Nat) (u : Value) (hi : vs[i]? = some (.iface 91 u)) (hlen : vs.length ≤ 1000) : Calls Tryz.prog 39 #[.agg #[.iface 127 (.pointer (some ⟨L, 0, none⟩)), .string ⟨#[91, 100]⟩], .int .i64 (i : Int)] w fun e w' => e = .returned (.agg #[.iface 91 u, .string ⟨#[100]⟩]) ∧ Below w.heap.size w w' := by
  obtain ⟨p, rfl, hc⟩ := h.2 i _ hi
  have hil : i < vs.length := (List.getElem?_eq_some_iff.1 hi).1
  have hb := below_alloc (below_alloc (Below.refl w.heap.size w) (.cells #[.iface 127 (.pointer (some ⟨L, 0, none⟩)), .string ⟨#[91, 100]⟩] 73)) (.cells #[.nilIface, .string ⟨#[]⟩] 73)
  have HK := Aside0.mk (kids_calls _ L S (some p) cap vs (h.below hb).drew)
  have c0 := pw_cell_below hb hc
  have c0d : ∀ o o2, ((w.alloc o).alloc o2).drew.cell? ⟨p, i, none⟩ = some (.iface 91 u) := fun o o2 => pw_cell_below (below_alloc (below_alloc (Below.refl _ _) o) o2) hc
  have hi0 : (0 : Int) ≤ (i : Int) := by omega
  have hi1 : (i : Int) < (vs.length : Int) := by omega
  have hi2 : decide ((i : Int) < (vs.length : Int)) = true := by simpa using hil
  clear h hi hc hb
  go_enter Tryz.func39, Tryz.ntmps39
  go_wp2
  have hk := HK.out
  simp only [Option.map_some] at hk
  have HK := Aside0.mk hk
  clear hk
  go_region_with (first | (go_at_call 63; refine HK.out.mono ?_; rintro e w2 ⟨rfl, rfl⟩) | (go_at_call 38; refine (el_d _).mono ?_; rintro e w2 ⟨rfl, rfl⟩))
  all_goals
    go_wp2
    refine bodyPost_ret (results_cell_row rfl _ _ (w.heap.size + 1) 73 _ (0, 0) _ rfl (heap_alloc2_new _ _ _) Tryz.underlying73 rfl inf73) rfl ?_
    exact ⟨rfl, by repeat (first | exact below_alloc (below_alloc (Below.refl _ _) _) _ | apply below_drew1)⟩
set_option maxRecDepth 100000 in
set_option maxHeartbeats 4000000 in
theorem el_h (w : World) : Calls Tryz.prog 38 #[.string ⟨#[91, 104]⟩] w fun e w' => e = .returned (.string ⟨#[104]⟩) ∧ w' = w := by
  go_enter Tryz.func38, Tryz.ntmps38
  go_wp2_with (go_at_call 57; refine (ki_lh _).mono ?_; rintro e w2 ⟨rfl, rfl⟩)
  go_ret
  exact ⟨rfl, rfl⟩
set_option maxRecDepth 100000 in
set_option maxHeartbeats 4000000 in
theorem idx_h (w : World) (L : Nat) (S : ByteArray) (A : Option Nat) (cap : Nat) (vs : List Value) (h : Ls w L S A cap vs) (i : Nat) (u : Value) (hi : vs[i]? = some (.iface 121 u)) (hlen : vs.length ≤ 1000) : Calls Tryz.prog 39 #[.agg #[.iface 127 (.pointer (some ⟨L, 0, none⟩)), .string ⟨#[91, 104]⟩], .int .i64 (i : Int)] w fun e w' => e = .returned (.agg #[.iface 121 u, .string ⟨#[104]⟩]) ∧ Below w.heap.size w w' := by
  obtain ⟨p, rfl, hc⟩ := h.2 i _ hi
  have hil : i < vs.length := (List.getElem?_eq_some_iff.1 hi).1
  have hb := below_alloc (below_alloc (Below.refl w.heap.size w) (.cells #[.iface 127 (.pointer (some ⟨L, 0, none⟩)), .string ⟨#[91, 104]⟩] 73)) (.cells #[.nilIface, .string ⟨#[]⟩] 73)
  have HK := Aside0.mk (kids_calls _ L S (some p) cap vs (h.below hb).drew)
  have c0 := pw_cell_below hb hc
  have c0d : ∀ o o2, ((w.alloc o).alloc o2).drew.cell? ⟨p, i, none⟩ = some (.iface 121 u) := fun o o2 => pw_cell_below (below_alloc (below_alloc (Below.refl _ _) o) o2) hc
  have hi0 : (0 : Int) ≤ (i : Int) := by omega
  have hi1 : (i : Int) < (vs.length : Int) := by omega
  have hi2 : decide ((i : Int) < (vs.length : Int)) = true := by simpa using hil
  clear h hi hc hb
  go_enter Tryz.func39, Tryz.ntmps39
  go_wp2
  have hk := HK.out
  simp only [Option.map_some] at hk
  have HK := Aside0.mk hk
  clear hk
  go_region_with (first | (go_at_call 63; refine HK.out.mono ?_; rintro e w2 ⟨rfl, rfl⟩) | (go_at_call 38; refine (el_h _).mono ?_; rintro e w2 ⟨rfl, rfl⟩))
  all_goals
    go_wp2
    refine bodyPost_ret (results_cell_row rfl _ _ (w.heap.size + 1) 73 _ (0, 0) _ rfl (heap_alloc2_new _ _ _) Tryz.underlying73 rfl inf73) rfl ?_
    exact ⟨rfl, by repeat (first | exact below_alloc (below_alloc (Below.refl _ _) _) _ | apply below_drew1)⟩
set_option maxRecDepth 100000 in
set_option maxHeartbeats 4000000 in
theorem zt_ly (w : World) (L : Nat) (A : Option Nat) (cap : Nat) (vs : List Value) (h : Ls w L ⟨#[121]⟩ A cap vs) : Calls Tryz.prog 52 #[.iface 127 (.pointer (some ⟨L, 0, none⟩))] w fun e w' => e = .returned (.string ⟨#[91, 121]⟩) ∧ w' = w := by
  have c0 := h.c0
  clear h
  go_enter Tryz.func52, Tryz.ntmps52
  go_wp2
  go_ret
  exact ⟨rfl, rfl⟩
theorem zv_ly (w : World) (L : Nat) (A : Option Nat) (cap : Nat) (vs : List Value) (h : Ls w L ⟨#[121]⟩ A cap vs) : Calls Tryz.prog 20 #[.iface 127 (.pointer (some ⟨L, 0, none⟩))] w fun e w' => e = .returned (.agg #[.iface 127 (.pointer (some ⟨L, 0, none⟩)), .string ⟨#[91, 121]⟩]) ∧ Below w.heap.size w w' := by
  have HZ := Aside0.mk (zt_ly _ L A cap vs (h.below (below_alloc (Below.refl _ _) (.cells #[.nilIface, .string ⟨#[]⟩] 73))))
  clear h
  go_enter Tryz.func20, Tryz.ntmps20
  go_wp2_with (go_at_call 52; refine HZ.out.mono ?_; rintro e w2 ⟨rfl, rfl⟩)
  refine bodyPost_ret (results_cell_row rfl _ _ w.heap.size 73 _ (0, 0) _ rfl (heap_alloc_new _ _) Tryz.underlying73 rfl inf73) rfl ?_
  exact ⟨rfl, below_alloc (Below.refl _ _) _⟩
set_option maxRecDepth 100000 in
set_option maxHeartbeats 4000000 in
theorem zt_ln (w : World) (L : Nat) (A : Option Nat) (cap : Nat) (vs : List Value) (h : Ls w L ⟨#[110]⟩ A cap vs) : Calls Tryz.prog 52 #[.iface 127 (.pointer (some ⟨L, 0, none⟩))] w fun e w' => e = .returned (.string ⟨#[91, 110]⟩) ∧ w' = w := by
  have c0 := h.c0
  clear h
  go_enter Tryz.func52, Tryz.ntmps52
  go_wp2
  go_ret
  exact ⟨rfl, rfl⟩
theorem zv_ln (w : World) (L : Nat) (A : Option Nat) (cap : Nat) (vs : List Value) (h : Ls w L ⟨#[110]⟩ A cap vs) : Calls Tryz.prog 20 #[.iface 127 (.pointer (some ⟨L, 0, none⟩))] w fun e w' => e = .returned (.agg #[.iface 127 (.pointer (some ⟨L, 0, none⟩)), .string ⟨#[91, 110]⟩]) ∧ Below w.heap.size w w' := by
  have HZ := Aside0.mk (zt_ln _ L A cap vs (h.below (below_alloc (Below.refl _ _) (.cells #[.nilIface, .string ⟨#[]⟩] 73))))
  clear h
  go_enter Tryz.func20, Tryz.ntmps20
  go_wp2_with (go_at_call 52; refine HZ.out.mono ?_; rintro e w2 ⟨rfl, rfl⟩)
  refine bodyPost_ret (results_cell_row rfl _ _ w.heap.size 73 _ (0, 0) _ rfl (heap_alloc_new _ _) Tryz.underlying73 rfl inf73) rfl ?_
  exact ⟨rfl, below_alloc (Below.refl _ _) _⟩
set_option maxRecDepth 100000 in
set_option maxHeartbeats 4000000 in
theorem zt_lq (w : World) (L : Nat) (A : Option Nat) (cap : Nat) (vs : List Value) (h : Ls w L ⟨#[113]⟩ A cap vs) : Calls Tryz.prog 52 #[.iface 127 (.pointer (some ⟨L, 0, none⟩))] w fun e w' => e = .returned (.string ⟨#[91, 113]⟩) ∧ w' = w := by
  have c0 := h.c0
  clear h
  go_enter Tryz.func52, Tryz.ntmps52
  go_wp2
  go_ret
  exact ⟨rfl, rfl⟩
theorem zv_lq (w : World) (L : Nat) (A : Option Nat) (cap : Nat) (vs : List Value) (h : Ls w L ⟨#[113]⟩ A cap vs) : Calls Tryz.prog 20 #[.iface 127 (.pointer (some ⟨L, 0, none⟩))] w fun e w' => e = .returned (.agg #[.iface 127 (.pointer (some ⟨L, 0, none⟩)), .string ⟨#[91, 113]⟩]) ∧ Below w.heap.size w w' := by
  have HZ := Aside0.mk (zt_lq _ L A cap vs (h.below (below_alloc (Below.refl _ _) (.cells #[.nilIface, .string ⟨#[]⟩] 73))))
  clear h
  go_enter Tryz.func20, Tryz.ntmps20
  go_wp2_with (go_at_call 52; refine HZ.out.mono ?_; rintro e w2 ⟨rfl, rfl⟩)
  refine bodyPost_ret (results_cell_row rfl _ _ w.heap.size 73 _ (0, 0) _ rfl (heap_alloc_new _ _) Tryz.underlying73 rfl inf73) rfl ?_
  exact ⟨rfl, below_alloc (Below.refl _ _) _⟩
set_option maxRecDepth 100000 in
set_option maxHeartbeats 4000000 in
theorem zt_li (w : World) (L : Nat) (A : Option Nat) (cap : Nat) (vs : List Value) (h : Ls w L ⟨#[105]⟩ A cap vs) : Calls Tryz.prog 52 #[.iface 127 (.pointer (some ⟨L, 0, none⟩))] w fun e w' => e = .returned (.string ⟨#[91, 105]⟩) ∧ w' = w := by
  have c0 := h.c0
  clear h
  go_enter Tryz.func52, Tryz.ntmps52
  go_wp2
  go_ret
  exact ⟨rfl, rfl⟩
theorem zv_li (w : World) (L : Nat) (A : Option Nat) (cap : Nat) (vs : List Value) (h : Ls w L ⟨#[105]⟩ A cap vs) : Calls Tryz.prog 20 #[.iface 127 (.pointer (some ⟨L, 0, none⟩))] w fun e w' => e = .returned (.agg #[.iface 127 (.pointer (some ⟨L, 0, none⟩)), .string ⟨#[91, 105]⟩]) ∧ Below w.heap.size w w' := by
  have HZ := Aside0.mk (zt_li _ L A cap vs (h.below (below_alloc (Below.refl _ _) (.cells #[.nilIface, .string ⟨#[]⟩] 73))))
  clear h
  go_enter Tryz.func20, Tryz.ntmps20
  go_wp2_with (go_at_call 52; refine HZ.out.mono ?_; rintro e w2 ⟨rfl, rfl⟩)
  refine bodyPost_ret (results_cell_row rfl _ _ w.heap.size 73 _ (0, 0) _ rfl (heap_alloc_new _ _) Tryz.underlying73 rfl inf73) rfl ?_
  exact ⟨rfl, below_alloc (Below.refl _ _) _⟩
set_option maxRecDepth 100000 in
set_option maxHeartbeats 4000000 in
theorem zt_lu (w : World) (L : Nat) (A : Option Nat) (cap : Nat) (vs : List Value) (h : Ls w L ⟨#[117]⟩ A cap vs) : Calls Tryz.prog 52 #[.iface 127 (.pointer (some ⟨L, 0, none⟩))] w fun e w' => e = .returned (.string ⟨#[91, 117]⟩) ∧ w' = w := by
  have c0 := h.c0
  clear h
  go_enter Tryz.func52, Tryz.ntmps52
  go_wp2
  go_ret
  exact ⟨rfl, rfl⟩
theorem zv_lu (w : World) (L : Nat) (A : Option Nat) (cap : Nat) (vs : List Value) (h : Ls w L ⟨#[117]⟩ A cap vs) : Calls Tryz.prog 20 #[.iface 127 (.pointer (some ⟨L, 0, none⟩))] w fun e w' => e = .returned (.agg #[.iface 127 (.pointer (some ⟨L, 0, none⟩)), .string ⟨#[91, 117]⟩]) ∧ Below w.heap.size w w' := by
  have HZ := Aside0.mk (zt_lu _ L A cap vs (h.below (below_alloc (Below.refl _ _) (.cells #[.nilIface, .string ⟨#[]⟩] 73))))
  clear h
  go_enter Tryz.func20, Tryz.ntmps20
  go_wp2_with (go_at_call 52; refine HZ.out.mono ?_; rintro e w2 ⟨rfl, rfl⟩)
  refine bodyPost_ret (results_cell_row rfl _ _ w.heap.size 73 _ (0, 0) _ rfl (heap_alloc_new _ _) Tryz.underlying73 rfl inf73) rfl ?_
  exact ⟨rfl, below_alloc (Below.refl _ _) _⟩
set_option maxRecDepth 100000 in
set_option maxHeartbeats 4000000 in
theorem zt_lx (w : World) (L : Nat) (A : Option Nat) (cap : Nat) (vs : List Value) (h : Ls w L ⟨#[120]⟩ A cap vs) : Calls Tryz.prog 52 #[.iface 127 (.pointer (some ⟨L, 0, none⟩))] w fun e w' => e = .returned (.string ⟨#[91, 120]⟩) ∧ w' = w := by
  have c0 := h.c0
  clear h
  go_enter Tryz.func52, Tryz.ntmps52
  go_wp2
  go_ret
  exact ⟨rfl, rfl⟩
theorem zv_lx (w : World) (L : Nat) (A : Option Nat) (cap : Nat) (vs : List Value) (h : Ls w L ⟨#[120]⟩ A cap vs) : Calls Tryz.prog 20 #[.iface 127 (.pointer (some ⟨L, 0, none⟩))] w fun e w' => e = .returned (.agg #[.iface 127 (.pointer (some ⟨L, 0, none⟩)), .string ⟨#[91, 120]⟩]) ∧ Below w.heap.size w w' := by
  have HZ := Aside0.mk (zt_lx _ L A cap vs (h.below (below_alloc (Below.refl _ _) (.cells #[.nilIface, .string ⟨#[]⟩] 73))))
  clear h
  go_enter Tryz.func20, Tryz.ntmps20
  go_wp2_with (go_at_call 52; refine HZ.out.mono ?_; rintro e w2 ⟨rfl, rfl⟩)
  refine bodyPost_ret (results_cell_row rfl _ _ w.heap.size 73 _ (0, 0) _ rfl (heap_alloc_new _ _) Tryz.underlying73 rfl inf73) rfl ?_
  exact ⟨rfl, below_alloc (Below.refl _ _) _⟩
set_option maxRecDepth 100000 in
set_option maxHeartbeats 4000000 in
theorem zt_lt (w : World) (L : Nat) (A : Option Nat) (cap : Nat) (vs : List Value) (h : Ls w L ⟨#[116]⟩ A cap vs) : Calls Tryz.prog 52 #[.iface 127 (.pointer (some ⟨L, 0, none⟩))] w fun e w' => e = .returned (.string ⟨#[91, 116]⟩) ∧ w' = w := by
  have c0 := h.c0
  clear h
  go_enter Tryz.func52, Tryz.ntmps52
  go_wp2
  go_ret
  exact ⟨rfl, rfl⟩
theorem zv_lt (w : World) (L : Nat) (A : Option Nat) (cap : Nat) (vs : List Value) (h : Ls w L ⟨#[116]⟩ A cap vs) : Calls Tryz.prog 20 #[.iface 127 (.pointer (some ⟨L, 0, none⟩))] w fun e w' => e = .returned (.agg #[.iface 127 (.pointer (some ⟨L, 0, none⟩)), .string ⟨#[91, 116]⟩]) ∧ Below w.heap.size w w' := by
  have HZ := Aside0.mk (zt_lt _ L A cap vs (h.below (below_alloc (Below.refl _ _) (.cells #[.nilIface, .string ⟨#[]⟩] 73))))
  clear h
  go_enter Tryz.func20, Tryz.ntmps20
  go_wp2_with (go_at_call 52; refine HZ.out.mono ?_; rintro e w2 ⟨rfl, rfl⟩)
  refine bodyPost_ret (results_cell_row rfl _ _ w.heap.size 73 _ (0, 0) _ rfl (heap_alloc_new _ _) Tryz.underlying73 rfl inf73) rfl ?_
  exact ⟨rfl, below_alloc (Below.refl _ _) _⟩
set_option maxRecDepth 100000 in
set_option maxHeartbeats 4000000 in
theorem zt_ld (w : World) (L : Nat) (A : Option Nat) (cap : Nat) (vs : List Value) (h : Ls w L ⟨#[100]⟩ A cap vs) : Calls Tryz.prog 52 #[.iface 127 (.pointer (some ⟨L, 0, none⟩))] w fun e w' => e = .returned (.string ⟨#[91, 100]⟩) ∧ w' = w := by
  have c0 := h.c0
  clear h
  go_enter Tryz.func52, Tryz.ntmps52
  go_wp2
  go_ret
  exact ⟨rfl, rfl⟩
theorem zv_ld (w : World) (L : Nat) (A : Option Nat) (cap : Nat) (vs : List Value) (h : Ls w L ⟨#[100]⟩ A cap vs) : Calls Tryz.prog 20 #[.iface 127 (.pointer (some ⟨L, 0, none⟩))] w fun e w' => e = .returned (.agg #[.iface 127 (.pointer (some ⟨L, 0, none⟩)), .string ⟨#[91, 100]⟩]) ∧ Below w.heap.size w w' := by
  have HZ := Aside0.mk (zt_ld _ L A cap vs (h.below (below_alloc (Below.refl _ _) (.cells #[.nilIface, .string ⟨#[]⟩] 73))))
  clear h
  go_enter Tryz.func20, Tryz.ntmps20
  go_wp2_with (go_at_call 52; refine HZ.out.mono ?_; rintro e w2 ⟨rfl, rfl⟩)
  refine bodyPost_ret (results_cell_row rfl _ _ w.heap.size 73 _ (0, 0) _ rfl (heap_alloc_new _ _) Tryz.underlying73 rfl inf73) rfl ?_
  exact ⟨rfl, below_alloc (Below.refl _ _) _⟩
set_option maxRecDepth 100000 in
set_option maxHeartbeats 4000000 in
theorem zt_lh (w : World) (L : Nat) (A : Option Nat) (cap : Nat) (vs : List Value) (h : Ls w L ⟨#[104]⟩ A cap vs) : Calls Tryz.prog 52 #[.iface 127 (.pointer (some ⟨L, 0, none⟩))] w fun e w' => e = .returned (.string ⟨#[91, 104]⟩) ∧ w' = w := by
  have c0 := h.c0
  clear h
  go_enter Tryz.func52, Tryz.ntmps52
  go_wp2
  go_ret
  exact ⟨rfl, rfl⟩
theorem zv_lh (w : World) (L : Nat) (A : Option Nat) (cap : Nat) (vs : List Value) (h : Ls w L ⟨#[104]⟩ A cap vs) : Calls Tryz.prog 20 #[.iface 127 (.pointer (some ⟨L, 0, none⟩))] w fun e w' => e = .returned (.agg #[.iface 127 (.pointer (some ⟨L, 0, none⟩)), .string ⟨#[91, 104]⟩]) ∧ Below w.heap.size w w' := by
  have HZ := Aside0.mk (zt_lh _ L A cap vs (h.below (below_alloc (Below.refl _ _) (.cells #[.nilIface, .string ⟨#[]⟩] 73))))
  clear h
  go_enter Tryz.func20, Tryz.ntmps20
  go_wp2_with (go_at_call 52; refine HZ.out.mono ?_; rintro e w2 ⟨rfl, rfl⟩)
  refine bodyPost_ret (results_cell_row rfl _ _ w.heap.size 73 _ (0, 0) _ rfl (heap_alloc_new _ _) Tryz.underlying73 rfl inf73) rfl ?_
  exact ⟨rfl, below_alloc (Below.refl _ _) _⟩
set_option maxRecDepth 100000 in
set_option maxHeartbeats 4000000 in
theorem ne_calls (w : World) (b : Nat) (off : Int) (ord : Value) (ho : ord = .iface 67 (.agg #[]) ∨ ord = .iface 68 (.agg #[])) : Calls Tryz.prog 12 #[.iface 50 (.pointer (some ⟨b, 0, none⟩)), .int .i64 off, ord, .slice none 0 0] w fun e w' => e = .returned (.pointer (some ⟨w.heap.size, 0, none⟩)) ∧ w' = w.alloc (.cells #[.iface 50 (.pointer (some ⟨b, 0, none⟩)), .slice none 0 0, ord, .int .i64 off] 65) := by
  rcases ho with rfl | rfl <;>
  · go_enter Tryz.func12, Tryz.ntmps12
    go_wp2
    go_ret
    exact ⟨rfl, rfl⟩


end Go.Proofs.YtcnhpiodomknfaaGreatDoor.MFnWrTurned
