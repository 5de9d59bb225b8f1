-- A trial text of this session.
import Derived.Test.YtcnhpiodomknfaaGreatDoorWt22
namespace Go.Proofs.YtcnhpiodomknfaaGreatDoor.MFnWrTurned
open Go.RowKit Go.Proofs.YtcnhpiodomknfaaGreatDoorW.PrintWords Go.Proofs.YtcnhpiodomknfaaGreatDoorW.PrintLast Go.Proofs.YtcnhpiodomknfaaGreatDoorW.PrintMore
attribute [local go_sem] max2_int min2_int max_two min_two max_three min_three max_four min_four
set_option linter.unusedVariables false
set_option linter.unusedSimpArgs false

theorem we_y67 (ms : List Nat) (hms : ∀ m ∈ ms, m < 256) (hlen : ms.length ≤ 200) (A : Option Addr) (cp : Nat) (hcp : 1 ≤ cp) (w : World) (hC : Kd.C k28 w A 1 [⟨97, 0, ⟨#[121]⟩, ms.map (kd28 121 fun m => (m : Int))⟩]) :
    Calls Tryz.prog 6 #[.slice A 1 cp, .bool true, .int .i64 0] w fun e w' => e = .returned (.tuple #[.string ⟨(bl true 4 (1 * ms.length) ++ [] ++ ms.flatMap (bl true 1)).toArray⟩, .bool true]) ∧ Below w.heap.size w w' := by
  refine we1 121 (by decide) true (fun m => (m : Int)) 5 (fun m => .int .u8 (m : Int)) ms hlen _ (.iface 67 (.agg #[])) (.inl rfl) (dor_calls true) (fun W => dt_y W) ?_ (fun W L B cap2 h => zv_ly W L B cap2 _ h) (fun W b e L B cap2 zb hbe hz hzo hL he hb => li_y67 ms hms hlen b e L cap2 B hbe W zb _ 38 (by decide) hz hzo hL he 0 hb) A cp hcp w hC
  intro m hm A n3 c3 W
  exact di_y ((m : Int)) ((m : Int)) (by have h1 := hms m hm; simp only [IntKind.wrap, IntKind.bits, IntKind.signed]; simp; omega) _ A n3 c3 W
theorem we_y68 (ms : List Nat) (hms : ∀ m ∈ ms, m < 256) (hlen : ms.length ≤ 200) (A : Option Addr) (cp : Nat) (hcp : 1 ≤ cp) (w : World) (hC : Kd.C k28 w A 1 [⟨97, 0, ⟨#[121]⟩, ms.map (kd28 121 fun m => (m : Int))⟩]) :
    Calls Tryz.prog 6 #[.slice A 1 cp, .bool false, .int .i64 0] w fun e w' => e = .returned (.tuple #[.string ⟨(bl false 4 (1 * ms.length) ++ [] ++ ms.flatMap (bl false 1)).toArray⟩, .bool true]) ∧ Below w.heap.size w w' := by
  refine we1 121 (by decide) false (fun m => (m : Int)) 5 (fun m => .int .u8 (m : Int)) ms hlen _ (.iface 68 (.agg #[])) (.inr rfl) (dor_calls false) (fun W => dt_y W) ?_ (fun W L B cap2 h => zv_ly W L B cap2 _ h) (fun W b e L B cap2 zb hbe hz hzo hL he hb => li_y68 ms hms hlen b e L cap2 B hbe W zb _ 38 (by decide) hz hzo hL he 0 hb) A cp hcp w hC
  intro m hm A n3 c3 W
  exact di_y ((m : Int)) ((m : Int)) (by have h1 := hms m hm; simp only [IntKind.wrap, IntKind.bits, IntKind.signed]; simp; omega) _ A n3 c3 W
theorem we_n67 (ms : List Nat) (hms : ∀ m ∈ ms, m < 65536) (hlen : ms.length ≤ 200) (A : Option Addr) (cp : Nat) (hcp : 1 ≤ cp) (w : World) (hC : Kd.C k28 w A 1 [⟨97, 0, ⟨#[110]⟩, ms.map (kd28 110 fun m => IntKind.u64.wrap (sx 2 m))⟩]) :
    Calls Tryz.prog 6 #[.slice A 1 cp, .bool true, .int .i64 0] w fun e w' => e = .returned (.tuple #[.string ⟨(bl true 4 (2 * ms.length) ++ [] ++ ms.flatMap (bl true 2)).toArray⟩, .bool true]) ∧ Below w.heap.size w w' := by
  refine we1 110 (by decide) true (fun m => IntKind.u64.wrap (sx 2 m)) 43 (fun m => .int .i16 (sx 2 m)) ms hlen _ (.iface 67 (.agg #[])) (.inl rfl) (dor_calls true) (fun W => dt_n W) ?_ (fun W L B cap2 h => zv_ln W L B cap2 _ h) (fun W b e L B cap2 zb hbe hz hzo hL he hb => li_n67 ms hms hlen b e L cap2 B hbe W zb _ 38 (by decide) hz hzo hL he 0 hb) A cp hcp w hC
  intro m hm A n3 c3 W
  exact di_n (IntKind.u64.wrap (sx 2 m)) (sx 2 m) (by have h1 := sx_n m (hms m hm); simp only [IntKind.wrap, IntKind.bits, IntKind.signed]; simp; omega) _ A n3 c3 W
theorem we_n68 (ms : List Nat) (hms : ∀ m ∈ ms, m < 65536) (hlen : ms.length ≤ 200) (A : Option Addr) (cp : Nat) (hcp : 1 ≤ cp) (w : World) (hC : Kd.C k28 w A 1 [⟨97, 0, ⟨#[110]⟩, ms.map (kd28 110 fun m => IntKind.u64.wrap (sx 2 m))⟩]) :
    Calls Tryz.prog 6 #[.slice A 1 cp, .bool false, .int .i64 0] w fun e w' => e = .returned (.tuple #[.string ⟨(bl false 4 (2 * ms.length) ++ [] ++ ms.flatMap (bl false 2)).toArray⟩, .bool true]) ∧ Below w.heap.size w w' := by
  refine we1 110 (by decide) false (fun m => IntKind.u64.wrap (sx 2 m)) 43 (fun m => .int .i16 (sx 2 m)) ms hlen _ (.iface 68 (.agg #[])) (.inr rfl) (dor_calls false) (fun W => dt_n W) ?_ (fun W L B cap2 h => zv_ln W L B cap2 _ h) (fun W b e L B cap2 zb hbe hz hzo hL he hb => li_n68 ms hms hlen b e L cap2 B hbe W zb _ 38 (by decide) hz hzo hL he 0 hb) A cp hcp w hC
  intro m hm A n3 c3 W
  exact di_n (IntKind.u64.wrap (sx 2 m)) (sx 2 m) (by have h1 := sx_n m (hms m hm); simp only [IntKind.wrap, IntKind.bits, IntKind.signed]; simp; omega) _ A n3 c3 W
theorem we_q67 (ms : List Nat) (hms : ∀ m ∈ ms, m < 65536) (hlen : ms.length ≤ 200) (A : Option Addr) (cp : Nat) (hcp : 1 ≤ cp) (w : World) (hC : Kd.C k28 w A 1 [⟨97, 0, ⟨#[113]⟩, ms.map (kd28 113 fun m => (m : Int))⟩]) :
    Calls Tryz.prog 6 #[.slice A 1 cp, .bool true, .int .i64 0] w fun e w' => e = .returned (.tuple #[.string ⟨(bl true 4 (2 * ms.length) ++ [] ++ ms.flatMap (bl true 2)).toArray⟩, .bool true]) ∧ Below w.heap.size w w' := by
  refine we1 113 (by decide) true (fun m => (m : Int)) 90 (fun m => .int .u16 (m : Int)) ms hlen _ (.iface 67 (.agg #[])) (.inl rfl) (dor_calls true) (fun W => dt_q W) ?_ (fun W L B cap2 h => zv_lq W L B cap2 _ h) (fun W b e L B cap2 zb hbe hz hzo hL he hb => li_q67 ms hms hlen b e L cap2 B hbe W zb _ 38 (by decide) hz hzo hL he 0 hb) A cp hcp w hC
  intro m hm A n3 c3 W
  exact di_q ((m : Int)) ((m : Int)) (by have h1 := hms m hm; simp only [IntKind.wrap, IntKind.bits, IntKind.signed]; simp; omega) _ A n3 c3 W
theorem we_q68 (ms : List Nat) (hms : ∀ m ∈ ms, m < 65536) (hlen : ms.length ≤ 200) (A : Option Addr) (cp : Nat) (hcp : 1 ≤ cp) (w : World) (hC : Kd.C k28 w A 1 [⟨97, 0, ⟨#[113]⟩, ms.map (kd28 113 fun m => (m : Int))⟩]) :
    Calls Tryz.prog 6 #[.slice A 1 cp, .bool false, .int .i64 0] w fun e w' => e = .returned (.tuple #[.string ⟨(bl false 4 (2 * ms.length) ++ [] ++ ms.flatMap (bl false 2)).toArray⟩, .bool true]) ∧ Below w.heap.size w w' := by
  refine we1 113 (by decide) false (fun m => (m : Int)) 90 (fun m => .int .u16 (m : Int)) ms hlen _ (.iface 68 (.agg #[])) (.inr rfl) (dor_calls false) (fun W => dt_q W) ?_ (fun W L B cap2 h => zv_lq W L B cap2 _ h) (fun W b e L B cap2 zb hbe hz hzo hL he hb => li_q68 ms hms hlen b e L cap2 B hbe W zb _ 38 (by decide) hz hzo hL he 0 hb) A cp hcp w hC
  intro m hm A n3 c3 W
  exact di_q ((m : Int)) ((m : Int)) (by have h1 := hms m hm; simp only [IntKind.wrap, IntKind.bits, IntKind.signed]; simp; omega) _ A n3 c3 W
theorem we_i67 (ms : List Nat) (hms : ∀ m ∈ ms, m < 4294967296) (hlen : ms.length ≤ 200) (A : Option Addr) (cp : Nat) (hcp : 1 ≤ cp) (w : World) (hC : Kd.C k28 w A 1 [⟨97, 0, ⟨#[105]⟩, ms.map (kd28 105 fun m => IntKind.u64.wrap (sx 4 m))⟩]) :
    Calls Tryz.prog 6 #[.slice A 1 cp, .bool true, .int .i64 0] w fun e w' => e = .returned (.tuple #[.string ⟨(bl true 4 (4 * ms.length) ++ [] ++ ms.flatMap (bl true 4)).toArray⟩, .bool true]) ∧ Below w.heap.size w w' := by
  refine we1 105 (by decide) true (fun m => IntKind.u64.wrap (sx 4 m)) 21 (fun m => .int .i32 (sx 4 m)) ms hlen _ (.iface 67 (.agg #[])) (.inl rfl) (dor_calls true) (fun W => dt_i W) ?_ (fun W L B cap2 h => zv_li W L B cap2 _ h) (fun W b e L B cap2 zb hbe hz hzo hL he hb => li_i67 ms hms hlen b e L cap2 B hbe W zb _ 38 (by decide) hz hzo hL he 0 hb) A cp hcp w hC
  intro m hm A n3 c3 W
  exact di_i (IntKind.u64.wrap (sx 4 m)) (sx 4 m) (by have h1 := sx_i m (hms m hm); simp only [IntKind.wrap, IntKind.bits, IntKind.signed]; simp; omega) _ A n3 c3 W
theorem we_i68 (ms : List Nat) (hms : ∀ m ∈ ms, m < 4294967296) (hlen : ms.length ≤ 200) (A : Option Addr) (cp : Nat) (hcp : 1 ≤ cp) (w : World) (hC : Kd.C k28 w A 1 [⟨97, 0, ⟨#[105]⟩, ms.map (kd28 105 fun m => IntKind.u64.wrap (sx 4 m))⟩]) :
    Calls Tryz.prog 6 #[.slice A 1 cp, .bool false, .int .i64 0] w fun e w' => e = .returned (.tuple #[.string ⟨(bl false 4 (4 * ms.length) ++ [] ++ ms.flatMap (bl false 4)).toArray⟩, .bool true]) ∧ Below w.heap.size w w' := by
  refine we1 105 (by decide) false (fun m => IntKind.u64.wrap (sx 4 m)) 21 (fun m => .int .i32 (sx 4 m)) ms hlen _ (.iface 68 (.agg #[])) (.inr rfl) (dor_calls false) (fun W => dt_i W) ?_ (fun W L B cap2 h => zv_li W L B cap2 _ h) (fun W b e L B cap2 zb hbe hz hzo hL he hb => li_i68 ms hms hlen b e L cap2 B hbe W zb _ 38 (by decide) hz hzo hL he 0 hb) A cp hcp w hC
  intro m hm A n3 c3 W
  exact di_i (IntKind.u64.wrap (sx 4 m)) (sx 4 m) (by have h1 := sx_i m (hms m hm); simp only [IntKind.wrap, IntKind.bits, IntKind.signed]; simp; omega) _ A n3 c3 W
theorem we_u67 (ms : List Nat) (hms : ∀ m ∈ ms, m < 4294967296) (hlen : ms.length ≤ 200) (A : Option Addr) (cp : Nat) (hcp : 1 ≤ cp) (w : World) (hC : Kd.C k28 w A 1 [⟨97, 0, ⟨#[117]⟩, ms.map (kd28 117 fun m => (m : Int))⟩]) :
    Calls Tryz.prog 6 #[.slice A 1 cp, .bool true, .int .i64 0] w fun e w' => e = .returned (.tuple #[.string ⟨(bl true 4 (4 * ms.length) ++ [] ++ ms.flatMap (bl true 4)).toArray⟩, .bool true]) ∧ Below w.heap.size w w' := by
  refine we1 117 (by decide) true (fun m => (m : Int)) 87 (fun m => .int .u32 (m : Int)) ms hlen _ (.iface 67 (.agg #[])) (.inl rfl) (dor_calls true) (fun W => dt_u W) ?_ (fun W L B cap2 h => zv_lu W L B cap2 _ h) (fun W b e L B cap2 zb hbe hz hzo hL he hb => li_u67 ms hms hlen b e L cap2 B hbe W zb _ 38 (by decide) hz hzo hL he 0 hb) A cp hcp w hC
  intro m hm A n3 c3 W
  exact di_u ((m : Int)) ((m : Int)) (by have h1 := hms m hm; simp only [IntKind.wrap, IntKind.bits, IntKind.signed]; simp; omega) _ A n3 c3 W
theorem we_u68 (ms : List Nat) (hms : ∀ m ∈ ms, m < 4294967296) (hlen : ms.length ≤ 200) (A : Option Addr) (cp : Nat) (hcp : 1 ≤ cp) (w : World) (hC : Kd.C k28 w A 1 [⟨97, 0, ⟨#[117]⟩, ms.map (kd28 117 fun m => (m : Int))⟩]) :
    Calls Tryz.prog 6 #[.slice A 1 cp, .bool false, .int .i64 0] w fun e w' => e = .returned (.tuple #[.string ⟨(bl false 4 (4 * ms.length) ++ [] ++ ms.flatMap (bl false 4)).toArray⟩, .bool true]) ∧ Below w.heap.size w w' := by
  refine we1 117 (by decide) false (fun m => (m : Int)) 87 (fun m => .int .u32 (m : Int)) ms hlen _ (.iface 68 (.agg #[])) (.inr rfl) (dor_calls false) (fun W => dt_u W) ?_ (fun W L B cap2 h => zv_lu W L B cap2 _ h) (fun W b e L B cap2 zb hbe hz hzo hL he hb => li_u68 ms hms hlen b e L cap2 B hbe W zb _ 38 (by decide) hz hzo hL he 0 hb) A cp hcp w hC
  intro m hm A n3 c3 W
  exact di_u ((m : Int)) ((m : Int)) (by have h1 := hms m hm; simp only [IntKind.wrap, IntKind.bits, IntKind.signed]; simp; omega) _ A n3 c3 W
theorem we_x67 (ms : List Nat) (hms : ∀ m ∈ ms, m < 18446744073709551616) (hlen : ms.length ≤ 200) (A : Option Addr) (cp : Nat) (hcp : 1 ≤ cp) (w : World) (hC : Kd.C k28 w A 1 [⟨97, 0, ⟨#[120]⟩, ms.map (kd28 120 fun m => IntKind.u64.wrap (sx 8 m))⟩]) :
    Calls Tryz.prog 6 #[.slice A 1 cp, .bool true, .int .i64 0] w fun e w' => e = .returned (.tuple #[.string ⟨(bl true 4 (8 * ms.length) ++ [0, 0, 0, 0] ++ ms.flatMap (bl true 8)).toArray⟩, .bool true]) ∧ Below w.heap.size w w' := by
  refine we1 120 (by decide) true (fun m => IntKind.u64.wrap (sx 8 m)) 2 (fun m => .int .i64 (sx 8 m)) ms hlen _ (.iface 67 (.agg #[])) (.inl rfl) (dor_calls true) (fun W => dt_x W) ?_ (fun W L B cap2 h => zv_lx W L B cap2 _ h) (fun W b e L B cap2 zb hbe hz hzo hL he hb => li_x67 ms hms hlen b e L cap2 B hbe W zb _ 38 (by decide) hz hzo hL he 0 hb) A cp hcp w hC
  intro m hm A n3 c3 W
  exact di_x (IntKind.u64.wrap (sx 8 m)) (sx 8 m) (by have h1 := sx_x m (hms m hm); simp only [IntKind.wrap, IntKind.bits, IntKind.signed]; simp; omega) _ A n3 c3 W
theorem we_x68 (ms : List Nat) (hms : ∀ m ∈ ms, m < 18446744073709551616) (hlen : ms.length ≤ 200) (A : Option Addr) (cp : Nat) (hcp : 1 ≤ cp) (w : World) (hC : Kd.C k28 w A 1 [⟨97, 0, ⟨#[120]⟩, ms.map (kd28 120 fun m => IntKind.u64.wrap (sx 8 m))⟩]) :
    Calls Tryz.prog 6 #[.slice A 1 cp, .bool false, .int .i64 0] w fun e w' => e = .returned (.tuple #[.string ⟨(bl false 4 (8 * ms.length) ++ [0, 0, 0, 0] ++ ms.flatMap (bl false 8)).toArray⟩, .bool true]) ∧ Below w.heap.size w w' := by
  refine we1 120 (by decide) false (fun m => IntKind.u64.wrap (sx 8 m)) 2 (fun m => .int .i64 (sx 8 m)) ms hlen _ (.iface 68 (.agg #[])) (.inr rfl) (dor_calls false) (fun W => dt_x W) ?_ (fun W L B cap2 h => zv_lx W L B cap2 _ h) (fun W b e L B cap2 zb hbe hz hzo hL he hb => li_x68 ms hms hlen b e L cap2 B hbe W zb _ 38 (by decide) hz hzo hL he 0 hb) A cp hcp w hC
  intro m hm A n3 c3 W
  exact di_x (IntKind.u64.wrap (sx 8 m)) (sx 8 m) (by have h1 := sx_x m (hms m hm); simp only [IntKind.wrap, IntKind.bits, IntKind.signed]; simp; omega) _ A n3 c3 W
theorem we_t67 (ms : List Nat) (hms : ∀ m ∈ ms, m < 18446744073709551616) (hlen : ms.length ≤ 200) (A : Option Addr) (cp : Nat) (hcp : 1 ≤ cp) (w : World) (hC : Kd.C k28 w A 1 [⟨97, 0, ⟨#[116]⟩, ms.map (kd28 116 fun m => (m : Int))⟩]) :
    Calls Tryz.prog 6 #[.slice A 1 cp, .bool true, .int .i64 0] w fun e w' => e = .returned (.tuple #[.string ⟨(bl true 4 (8 * ms.length) ++ [0, 0, 0, 0] ++ ms.flatMap (bl true 8)).toArray⟩, .bool true]) ∧ Below w.heap.size w w' := by
  refine we1 116 (by decide) true (fun m => (m : Int)) 25 (fun m => .int .u64 (m : Int)) ms hlen _ (.iface 67 (.agg #[])) (.inl rfl) (dor_calls true) (fun W => dt_t W) ?_ (fun W L B cap2 h => zv_lt W L B cap2 _ h) (fun W b e L B cap2 zb hbe hz hzo hL he hb => li_t67 ms hms hlen b e L cap2 B hbe W zb _ 38 (by decide) hz hzo hL he 0 hb) A cp hcp w hC
  intro m hm A n3 c3 W
  exact di_t (m : Int) _ A n3 c3 W
theorem we_t68 (ms : List Nat) (hms : ∀ m ∈ ms, m < 18446744073709551616) (hlen : ms.length ≤ 200) (A : Option Addr) (cp : Nat) (hcp : 1 ≤ cp) (w : World) (hC : Kd.C k28 w A 1 [⟨97, 0, ⟨#[116]⟩, ms.map (kd28 116 fun m => (m : Int))⟩]) :
    Calls Tryz.prog 6 #[.slice A 1 cp, .bool false, .int .i64 0] w fun e w' => e = .returned (.tuple #[.string ⟨(bl false 4 (8 * ms.length) ++ [0, 0, 0, 0] ++ ms.flatMap (bl false 8)).toArray⟩, .bool true]) ∧ Below w.heap.size w w' := by
  refine we1 116 (by decide) false (fun m => (m : Int)) 25 (fun m => .int .u64 (m : Int)) ms hlen _ (.iface 68 (.agg #[])) (.inr rfl) (dor_calls false) (fun W => dt_t W) ?_ (fun W L B cap2 h => zv_lt W L B cap2 _ h) (fun W b e L B cap2 zb hbe hz hzo hL he hb => li_t68 ms hms hlen b e L cap2 B hbe W zb _ 38 (by decide) hz hzo hL he 0 hb) A cp hcp w hC
  intro m hm A n3 c3 W
  exact di_t (m : Int) _ A n3 c3 W
theorem we_d67 (ms : List Nat) (hms : ∀ m ∈ ms, m < 18446744073709551616) (hlen : ms.length ≤ 200) (A : Option Addr) (cp : Nat) (hcp : 1 ≤ cp) (w : World) (hC : Kd.C k28 w A 1 [⟨97, 0, ⟨#[100]⟩, ms.map (kd28 100 fun m => (m : Int))⟩]) :
    Calls Tryz.prog 6 #[.slice A 1 cp, .bool true, .int .i64 0] w fun e w' => e = .returned (.tuple #[.string ⟨(bl true 4 (8 * ms.length) ++ [0, 0, 0, 0] ++ ms.flatMap (bl true 8)).toArray⟩, .bool true]) ∧ Below w.heap.size w w' := by
  refine we1 100 (by decide) true (fun m => (m : Int)) 91 (fun m => .float .f64 m) ms hlen _ (.iface 67 (.agg #[])) (.inl rfl) (dor_calls true) (fun W => dt_d W) ?_ (fun W L B cap2 h => zv_ld W L B cap2 _ h) (fun W b e L B cap2 zb hbe hz hzo hL he hb => li_d67 ms hms hlen b e L cap2 B hbe W zb _ 38 (by decide) hz hzo hL he 0 hb) A cp hcp w hC
  intro m hm A n3 c3 W
  exact di_d (m : Int) _ A n3 c3 W
theorem we_d68 (ms : List Nat) (hms : ∀ m ∈ ms, m < 18446744073709551616) (hlen : ms.length ≤ 200) (A : Option Addr) (cp : Nat) (hcp : 1 ≤ cp) (w : World) (hC : Kd.C k28 w A 1 [⟨97, 0, ⟨#[100]⟩, ms.map (kd28 100 fun m => (m : Int))⟩]) :
    Calls Tryz.prog 6 #[.slice A 1 cp, .bool false, .int .i64 0] w fun e w' => e = .returned (.tuple #[.string ⟨(bl false 4 (8 * ms.length) ++ [0, 0, 0, 0] ++ ms.flatMap (bl false 8)).toArray⟩, .bool true]) ∧ Below w.heap.size w w' := by
  refine we1 100 (by decide) false (fun m => (m : Int)) 91 (fun m => .float .f64 m) ms hlen _ (.iface 68 (.agg #[])) (.inr rfl) (dor_calls false) (fun W => dt_d W) ?_ (fun W L B cap2 h => zv_ld W L B cap2 _ h) (fun W b e L B cap2 zb hbe hz hzo hL he hb => li_d68 ms hms hlen b e L cap2 B hbe W zb _ 38 (by decide) hz hzo hL he 0 hb) A cp hcp w hC
  intro m hm A n3 c3 W
  exact di_d (m : Int) _ A n3 c3 W
theorem we_h67 (ms : List Nat) (hms : ∀ m ∈ ms, m < 4294967296) (hlen : ms.length ≤ 200) (A : Option Addr) (cp : Nat) (hcp : 1 ≤ cp) (w : World) (hC : Kd.C k28 w A 1 [⟨97, 0, ⟨#[104]⟩, ms.map (kd28 104 fun m => (m : Int))⟩]) :
    Calls Tryz.prog 6 #[.slice A 1 cp, .bool true, .int .i64 0] w fun e w' => e = .returned (.tuple #[.string ⟨(bl true 4 (4 * ms.length) ++ [] ++ ms.flatMap (bl true 4)).toArray⟩, .bool true]) ∧ Below w.heap.size w w' := by
  refine we1 104 (by decide) true (fun m => (m : Int)) 121 (fun m => .int .u32 (m : Int)) ms hlen _ (.iface 67 (.agg #[])) (.inl rfl) (dor_calls true) (fun W => dt_h W) ?_ (fun W L B cap2 h => zv_lh W L B cap2 _ h) (fun W b e L B cap2 zb hbe hz hzo hL he hb => li_h67 ms hms hlen b e L cap2 B hbe W zb _ 38 (by decide) hz hzo hL he 0 hb) A cp hcp w hC
  intro m hm A n3 c3 W
  exact di_h ((m : Int)) ((m : Int)) (by have h1 := hms m hm; simp only [IntKind.wrap, IntKind.bits, IntKind.signed]; simp; omega) _ A n3 c3 W
theorem we_h68 (ms : List Nat) (hms : ∀ m ∈ ms, m < 4294967296) (hlen : ms.length ≤ 200) (A : Option Addr) (cp : Nat) (hcp : 1 ≤ cp) (w : World) (hC : Kd.C k28 w A 1 [⟨97, 0, ⟨#[104]⟩, ms.map (kd28 104 fun m => (m : Int))⟩]) :
    Calls Tryz.prog 6 #[.slice A 1 cp, .bool false, .int .i64 0] w fun e w' => e = .returned (.tuple #[.string ⟨(bl false 4 (4 * ms.length) ++ [] ++ ms.flatMap (bl false 4)).toArray⟩, .bool true]) ∧ Below w.heap.size w w' := by
  refine we1 104 (by decide) false (fun m => (m : Int)) 121 (fun m => .int .u32 (m : Int)) ms hlen _ (.iface 68 (.agg #[])) (.inr rfl) (dor_calls false) (fun W => dt_h W) ?_ (fun W L B cap2 h => zv_lh W L B cap2 _ h) (fun W b e L B cap2 zb hbe hz hzo hL he hb => li_h68 ms hms hlen b e L cap2 B hbe W zb _ 38 (by decide) hz hzo hL he 0 hb) A cp hcp w hC
  intro m hm A n3 c3 W
  exact di_h ((m : Int)) ((m : Int)) (by have h1 := hms m hm; simp only [IntKind.wrap, IntKind.bits, IntKind.signed]; simp; omega) _ A n3 c3 W


end Go.Proofs.YtcnhpiodomknfaaGreatDoor.MFnWrTurned
