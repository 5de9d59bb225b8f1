-- A trial text of this session.
import Derived.Test.YtcnhpiodomknfaaGreatDoorWt18
import Derived.LoopN
namespace Go.Proofs.YtcnhpiodomknfaaGreatDoor.MFnWrTurned
open Go.RowKit Go.Proofs.YtcnhpiodomknfaaGreatDoorW.PrintWords Go.Proofs.YtcnhpiodomknfaaGreatDoorW.PrintLast Go.Proofs.YtcnhpiodomknfaaGreatDoorW.PrintMore
attribute [local go_sem] max2_int min2_int max_two min_two max_three min_three max_four min_four
set_option linter.unusedVariables false
set_option linter.unusedSimpArgs false

attribute [-go_sem] Builtin.append_
set_option maxRecDepth 100000 in
set_option maxHeartbeats 16000000 in
theorem ds1 (c : UInt8) (n0 : Int) (A : Option Addr) (n c3 : Nat) (vs : List Value) (w : World) (ad : Addr) (cp : Nat) (q0 : w.cell? ad = some (.int .u8 97)) (q1 : w.cell? ⟨ad.block, ad.off + 1, none⟩ = some (.int .u64 n0)) (q2 : w.cell? ⟨ad.block, ad.off + 2, none⟩ = some (.string ⟨#[c]⟩)) (q3 : w.cell? ⟨ad.block, ad.off + 3, none⟩ = some (.slice A n c3))
    (hD : ∀ W, Below w.heap.size w W → Calls Tryz.prog 21 #[.agg #[.int .u8 97, .int .u64 n0, .string ⟨#[c]⟩, .slice A n c3]] W fun e w' => ∃ L B cap, e = .returned (.iface 127 (.pointer (some ⟨L, 0, none⟩))) ∧ Ls w' L ⟨#[c]⟩ B cap vs ∧ Below W.heap.size W w') :
    Calls Tryz.prog 15 #[.slice (some ad) 1 cp] w fun e w' => ∃ g cap L B cap2, e = .returned (.slice (some ⟨g, 0, none⟩) 1 cap) ∧ w'.cell? ⟨g, 0, none⟩ = some (.iface 127 (.pointer (some ⟨L, 0, none⟩))) ∧ Ls w' L ⟨#[c]⟩ B cap2 vs ∧ Below w.heap.size w w' := by
  have h0 : ad.add 0 = ad := by unfold Addr.add; split <;> simp_all
  have h5 := heap_alloc_new w (.cells #[.int .u8 97, .int .u64 n0, .string ⟨#[c]⟩, .slice A n c3] 59)
  have HB5 := Aside0.mk (below_alloc (Below.refl w.heap.size w) (.cells #[.int .u8 97, .int .u64 n0, .string ⟨#[c]⟩, .slice A n c3] 59))
  have x0 := (cell_of_row _ _ 0 _ 59 (0, 0) h5).trans rfl
  have x1 := (cell_of_row _ _ 1 _ 59 (0, 0) h5).trans rfl
  have x2 := (cell_of_row _ _ 2 _ 59 (0, 0) h5).trans rfl
  have x3 := (cell_of_row _ _ 3 _ 59 (0, 0) h5).trans rfl
  have HD := Aside0.mk hD
  clear hD h5
  have HAP : Aside0 (∀ w6 L, Below w.heap.size w w6 → ∃ g c1 w7, (Builtin.append_ #[55, 55] 55 #[.slice none 0 0, .slice (some ⟨w6.heap.size, 0, none⟩) 1 1]).run Tryz.prog (w6.alloc (.cells #[.iface 127 (.pointer (some ⟨L, 0, none⟩))] 20)) = .ok (.slice (some ⟨g, 0, none⟩) 1 c1) w7 ∧ w7.cell? ⟨g, 0, none⟩ = some (.iface 127 (.pointer (some ⟨L, 0, none⟩))) ∧ Below w6.heap.size w6 w7) := ⟨fun w6 L hb => by
    obtain ⟨i0, hi0, hz0⟩ := Option.map_eq_some_iff.1 info20
    simp only [Prod.mk.injEq] at hz0
    obtain ⟨v1, w7, hr, hown, hg, hv⟩ := run_append_own (P := Tryz.prog) (w6.alloc (.cells #[.iface 127 (.pointer (some ⟨L, 0, none⟩))] 20)) w6.heap.size 55 55 20 i0 .nilIface 1 16 Tryz.underlying55 hi0 hz0.1 hz0.2.1 hz0.2.2 rfl (by omega) (.slice none 0 0) 0 [] (World.ownsRow_nil _ _ _ _) ⟨w6.heap.size, 0, none⟩ 1 1 [.iface 127 (.pointer (some ⟨L, 0, none⟩))] rfl
      (World.news_of_block (cs := #[.iface 127 (.pointer (some ⟨L, 0, none⟩))]) (t := 20) (fr := (0, 0)) (heap_alloc_new w6 _)) (by intro x hx; rw [List.mem_singleton.1 hx]; rfl) (by unfold maxLen; omega) (by omega) (by simp)
    have hG := World.grownBy.trans (World.grownBy_alloc w6 (.cells #[.iface 127 (.pointer (some ⟨L, 0, none⟩))] 20) none) hg
    rcases hown.2 with ⟨_, h0⟩ | ⟨g, cap, cur, rfl, _⟩
    · omega
    · have hc := hown.cells (g := g) rfl 0 _ rfl
      exact ⟨g, cap, w7, hr, by simpa [Addr.add] using hc, ⟨hG.os, hG.tape, hG.output, hG.size, fun k hk => hG.block k hk (by simp)⟩⟩⟩
  go_enter Tryz.func15, Tryz.ntmps15
  go_wp2_with fail
  refine wp_loop_rounds 2 ?_
  rw [rounds_succ]
  generalize hR : Code.rounds _ _ _ 1 = R1
  go_wp2_with (first
    | (go_at_call 21; refine (HD.out _ HB5.out).mono ?_; rintro e1 w6 ⟨L, B, cap, rfl, hl, hb⟩; have HL6 := Aside0.mk hl; have HB6 := Aside0.mk (below_step HB5.out hb); obtain ⟨g, c1, w7, hr, hc7, hb7⟩ := HAP.out w6 L HB6.out; have HC7 := Aside0.mk hc7; have HL7 := Aside0.mk (hl.below hb7); have HB7 := Aside0.mk (below_step HB6.out hb7); clear hl hb hc7 hb7))
  subst hR
  rw [rounds_succ]
  generalize hR : Code.rounds _ _ _ 0 = R1
  go_wp2
  go_ret
  exact ⟨g, c1, L, B, cap, rfl, HC7.out, HL7.out, HB7.out⟩

end Go.Proofs.YtcnhpiodomknfaaGreatDoor.MFnWrTurned
