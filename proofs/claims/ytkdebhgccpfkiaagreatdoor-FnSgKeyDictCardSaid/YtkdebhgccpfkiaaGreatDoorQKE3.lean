import Derived.Test.YtkdebhgccpfkiaaGreatDoorQKE2
import Derived.Test.YtkdebhgccpfkiaaGreatDoorQKE1
import Derived.Test.YtkdebhgccpfkiaaGreatDoorQKS2
import Derived.Test.YtkdebhgccpfkiaaGreatDoorQKS3
set_option maxRecDepth 100000
set_option maxHeartbeats 16000000
namespace Go.Proofs.YtkdebhgccpfkiaaGreatDoor.au
open Go.RowKit Go.Proofs.aa.az Go.Proofs.aa.aM Go.Proofs.aa.aU
attribute [local go_sem] ba bh
set_option linter.unusedVariables false
set_option linter.unusedSimpArgs false
attribute [local go_sem] Hv EZ EY EW EU Hu CN CM CL E3 E0 CK CJ CI CH CG Am Al Aj CF ET ES CE CD CC CB Ai Ah Ag EP CA Cz Af Ae Ad EO Cy Cx Cw Cv Cu Ct CP At As Ar xQ xP xO xN CO Aq Ap Ao xM xL Ac
theorem aft (x : Int) (Oe : -32768 ≤ x) (jy : x < 32768) (dep : Int) (cm : 0 ≤ dep) (dt : dep ≤ 64) {w : World} {B e b : Nat} {r : Option Nat} {pos m : Nat} {ord : Value} (h : EN w B e b r pos m ord) (ho : iP ord) (hp : pos + 100 ≤ 200000000000) (hm : m + 100 ≤ 200000000000) :
 Calls Tryz.prog 47 #[.pointer (some ⟨e,0,none⟩),.agg #[.iface 71 (.int .i16 x),.string ⟨#[110]⟩],.int .i64 dep] w fun e' w' => e' = .returned (.tuple #[]) ∧ ER w B e b r pos m ord 15 w' := by
 have kQ : decide (64 < dep) = false := by simp; omega
 have Oh : IntKind.i16.wrap x = x := by simp [IntKind.wrap,IntKind.bits,IntKind.signed]; omega
 have H0 := U.mk h
 have N0 := U.mk (St.start (.iface 71 (.int .i16 x)) (.string ⟨#[110]⟩) h)
 have y0 := N0.out.x0
 have y1 := N0.out.x1
 have HO := U.mk ho
 have h7 := dZ (x := pos) (a := 2) (by omega)
 obtain ⟨q,hq⟩ : ∃ q,pd pos 2 = q := ⟨_,rfl⟩
 rw [hq] at h7
 have HQ := U.mk hq
 have jN : IntKind.i64.wrap (((pos + q : Nat) : Int) + 2) = ((pos + q + 2 : Nat) : Int) := by rw [IntKind.wrap_i64]; omega
 clear h cm dt ho hq
 go_enter Tryz.func47,Tryz.ntmps47
 go_wp2_with (first
  | (go_at_call 61; have h9 := N3; refine (bC _ rfl _ _).mono ?_; rintro e1 w2 ⟨rfl,hb⟩; have N3 := U.mk (N3.out.up hb); have v0 := N3.out.x0; have v1 := N3.out.x1; clear hb h9)
  | (go_at_call 61; refine (bC _ rfl _ _).mono ?_; rintro e1 w2 ⟨rfl,hb⟩; have N1 := U.mk (N0.out.up hb); have z0 := N1.out.x0; have z1 := N1.out.x1; clear hb)
  | (go_at_call 60; refine (afL _).mono ?_; rintro e1 w3 ⟨rfl,rfl⟩)
  | (go_at_call 59; refine (b7 N1.out.en 2 (by omega) (by omega) (by omega)).mono ?_; rintro e1 w4 ⟨rfl,r4,bJ,bX,bY⟩; rw [HQ.out] at bJ; have N2 := U.mk (N1.out.step bJ bX bY (N1.out.iX H0.out)); have u0 := N2.out.x0; have u1 := N2.out.x1; clear bJ bX bY)
  | (go_at_call 62; refine (aef _ rfl _).mono ?_; rintro e1 w5 ⟨rfl,hb⟩; have N3 := U.mk (N2.out.up hb); have v0 := N3.out.x0; have v1 := N3.out.x1; clear hb)
  | (go_at_call 66; refine (aeD x Oe jy _).mono ?_; rintro e1 w6 ⟨rfl,hb⟩; have N4 := U.mk (N3.out.up hb); have r0 := N4.out.x0; have r1 := N4.out.x1; clear hb)
  | (go_at_call 65; refine (adj x N4.out.en HO.out).mono ?_; rintro e1 w7 ⟨rfl,hq⟩; obtain ⟨r7,hst⟩ := N4.out.wr H0.out hq (by omega) (by omega); have N5 := U.mk hst; have q3 := hst.en.c3; have q4 := hst.en.f 3; clear hq hst))
 all_goals
  go_end0
  exact ⟨rfl,(N5.out.pos H0.out (pos + q + 2) (by omega)).out ⟨q + 2,by omega,by omega,by omega⟩⟩
theorem afr (x : Nat) (jy : x < 65536) (dep : Int) (cm : 0 ≤ dep) (dt : dep ≤ 64) {w : World} {B e b : Nat} {r : Option Nat} {pos m : Nat} {ord : Value} (h : EN w B e b r pos m ord) (ho : iP ord) (hp : pos + 100 ≤ 200000000000) (hm : m + 100 ≤ 200000000000) :
 Calls Tryz.prog 47 #[.pointer (some ⟨e,0,none⟩),.agg #[.iface 120 (.int .u16 (x : Int)),.string ⟨#[113]⟩],.int .i64 dep] w fun e' w' => e' = .returned (.tuple #[]) ∧ ER w B e b r pos m ord 15 w' := by
 have kQ : decide (64 < dep) = false := by simp; omega
 have Oh : IntKind.u16.wrap (x : Int) = (x : Int) := by simp [IntKind.wrap,IntKind.bits,IntKind.signed]; omega
 have H0 := U.mk h
 have N0 := U.mk (St.start (.iface 120 (.int .u16 (x : Int))) (.string ⟨#[113]⟩) h)
 have y0 := N0.out.x0
 have y1 := N0.out.x1
 have HO := U.mk ho
 have h7 := dZ (x := pos) (a := 2) (by omega)
 obtain ⟨q,hq⟩ : ∃ q,pd pos 2 = q := ⟨_,rfl⟩
 rw [hq] at h7
 have HQ := U.mk hq
 have jN : IntKind.i64.wrap (((pos + q : Nat) : Int) + 2) = ((pos + q + 2 : Nat) : Int) := by rw [IntKind.wrap_i64]; omega
 clear h cm dt ho hq
 go_enter Tryz.func47,Tryz.ntmps47
 go_wp2_with (first
  | (go_at_call 61; have h9 := N3; refine (bC _ rfl _ _).mono ?_; rintro e1 w2 ⟨rfl,hb⟩; have N3 := U.mk (N3.out.up hb); have v0 := N3.out.x0; have v1 := N3.out.x1; clear hb h9)
  | (go_at_call 61; refine (bC _ rfl _ _).mono ?_; rintro e1 w2 ⟨rfl,hb⟩; have N1 := U.mk (N0.out.up hb); have z0 := N1.out.x0; have z1 := N1.out.x1; clear hb)
  | (go_at_call 60; refine (afJ _).mono ?_; rintro e1 w3 ⟨rfl,rfl⟩)
  | (go_at_call 59; refine (b7 N1.out.en 2 (by omega) (by omega) (by omega)).mono ?_; rintro e1 w4 ⟨rfl,r4,bJ,bX,bY⟩; rw [HQ.out] at bJ; have N2 := U.mk (N1.out.step bJ bX bY (N1.out.iX H0.out)); have u0 := N2.out.x0; have u1 := N2.out.x1; clear bJ bX bY)
  | (go_at_call 62; refine (aed _ rfl _).mono ?_; rintro e1 w5 ⟨rfl,hb⟩; have N3 := U.mk (N2.out.up hb); have v0 := N3.out.x0; have v1 := N3.out.x1; clear hb)
  | (go_at_call 63; refine (aeC (x : Int) (by omega) (by omega) _).mono ?_; rintro e1 w6 ⟨rfl,hb⟩; have N4 := U.mk (N3.out.up hb); have r0 := N4.out.x0; have r1 := N4.out.x1; clear hb)
  | (go_at_call 65; refine (adi x N4.out.en HO.out).mono ?_; rintro e1 w7 ⟨rfl,hq⟩; obtain ⟨r7,hst⟩ := N4.out.wr H0.out hq (by omega) (by omega); have N5 := U.mk hst; have q3 := hst.en.c3; have q4 := hst.en.f 3; clear hq hst))
 all_goals
  go_end0
  exact ⟨rfl,(N5.out.pos H0.out (pos + q + 2) (by omega)).out ⟨q + 2,by omega,by omega,by omega⟩⟩
theorem afu (x : Int) (Oe : -2147483648 ≤ x) (jy : x < 2147483648) (dep : Int) (cm : 0 ≤ dep) (dt : dep ≤ 64) {w : World} {B e b : Nat} {r : Option Nat} {pos m : Nat} {ord : Value} (h : EN w B e b r pos m ord) (ho : iP ord) (hp : pos + 100 ≤ 200000000000) (hm : m + 100 ≤ 200000000000) :
 Calls Tryz.prog 47 #[.pointer (some ⟨e,0,none⟩),.agg #[.iface 21 (.int .i32 x),.string ⟨#[105]⟩],.int .i64 dep] w fun e' w' => e' = .returned (.tuple #[]) ∧ ER w B e b r pos m ord 15 w' := by
 have kQ : decide (64 < dep) = false := by simp; omega
 have Oh : IntKind.i32.wrap x = x := by simp [IntKind.wrap,IntKind.bits,IntKind.signed]; omega
 have H0 := U.mk h
 have N0 := U.mk (St.start (.iface 21 (.int .i32 x)) (.string ⟨#[105]⟩) h)
 have y0 := N0.out.x0
 have y1 := N0.out.x1
 have HO := U.mk ho
 have h7 := dZ (x := pos) (a := 4) (by omega)
 obtain ⟨q,hq⟩ : ∃ q,pd pos 4 = q := ⟨_,rfl⟩
 rw [hq] at h7
 have HQ := U.mk hq
 have jN : IntKind.i64.wrap (((pos + q : Nat) : Int) + 4) = ((pos + q + 4 : Nat) : Int) := by rw [IntKind.wrap_i64]; omega
 clear h cm dt ho hq
 go_enter Tryz.func47,Tryz.ntmps47
 go_wp2_with (first
  | (go_at_call 61; have h9 := N3; refine (bC _ rfl _ _).mono ?_; rintro e1 w2 ⟨rfl,hb⟩; have N3 := U.mk (N3.out.up hb); have v0 := N3.out.x0; have v1 := N3.out.x1; clear hb h9)
  | (go_at_call 61; refine (bC _ rfl _ _).mono ?_; rintro e1 w2 ⟨rfl,hb⟩; have N1 := U.mk (N0.out.up hb); have z0 := N1.out.x0; have z1 := N1.out.x1; clear hb)
  | (go_at_call 60; refine (afM _).mono ?_; rintro e1 w3 ⟨rfl,rfl⟩)
  | (go_at_call 59; refine (b7 N1.out.en 4 (by omega) (by omega) (by omega)).mono ?_; rintro e1 w4 ⟨rfl,r4,bJ,bX,bY⟩; rw [HQ.out] at bJ; have N2 := U.mk (N1.out.step bJ bX bY (N1.out.iX H0.out)); have u0 := N2.out.x0; have u1 := N2.out.x1; clear bJ bX bY)
  | (go_at_call 62; refine (aeg _ rfl _).mono ?_; rintro e1 w5 ⟨rfl,hb⟩; have N3 := U.mk (N2.out.up hb); have v0 := N3.out.x0; have v1 := N3.out.x1; clear hb)
  | (go_at_call 66; refine (aeE x Oe jy _).mono ?_; rintro e1 w6 ⟨rfl,hb⟩; have N4 := U.mk (N3.out.up hb); have r0 := N4.out.x0; have r1 := N4.out.x1; clear hb)
  | (go_at_call 65; refine (adk x N4.out.en HO.out).mono ?_; rintro e1 w7 ⟨rfl,hq⟩; obtain ⟨r7,hst⟩ := N4.out.wr H0.out hq (by omega) (by omega); have N5 := U.mk hst; have q3 := hst.en.c3; have q4 := hst.en.f 3; clear hq hst))
 all_goals
  go_end0
  exact ⟨rfl,(N5.out.pos H0.out (pos + q + 4) (by omega)).out ⟨q + 4,by omega,by omega,by omega⟩⟩
theorem DH (x : Nat) (jy : x < 4294967296) (dep : Int) (cm : 0 ≤ dep) (dt : dep ≤ 64) {w : World} {B e b : Nat} {r : Option Nat} {pos m : Nat} {ord : Value} (h : EN w B e b r pos m ord) (ho : iP ord) (hp : pos + 100 ≤ 200000000000) (hm : m + 100 ≤ 200000000000) :
 Calls Tryz.prog 47 #[.pointer (some ⟨e,0,none⟩),.agg #[.iface 117 (.int .u32 (x : Int)),.string ⟨#[117]⟩],.int .i64 dep] w fun e' w' => e' = .returned (.tuple #[]) ∧ ER w B e b r pos m ord 15 w' := by
 have kQ : decide (64 < dep) = false := by simp; omega
 have Oh : IntKind.u32.wrap (x : Int) = (x : Int) := by simp [IntKind.wrap,IntKind.bits,IntKind.signed]; omega
 have H0 := U.mk h
 have N0 := U.mk (St.start (.iface 117 (.int .u32 (x : Int))) (.string ⟨#[117]⟩) h)
 have y0 := N0.out.x0
 have y1 := N0.out.x1
 have HO := U.mk ho
 have h7 := dZ (x := pos) (a := 4) (by omega)
 obtain ⟨q,hq⟩ : ∃ q,pd pos 4 = q := ⟨_,rfl⟩
 rw [hq] at h7
 have HQ := U.mk hq
 have jN : IntKind.i64.wrap (((pos + q : Nat) : Int) + 4) = ((pos + q + 4 : Nat) : Int) := by rw [IntKind.wrap_i64]; omega
 clear h cm dt ho hq
 go_enter Tryz.func47,Tryz.ntmps47
 go_wp2_with (first
  | (go_at_call 61; have h9 := N3; refine (bC _ rfl _ _).mono ?_; rintro e1 w2 ⟨rfl,hb⟩; have N3 := U.mk (N3.out.up hb); have v0 := N3.out.x0; have v1 := N3.out.x1; clear hb h9)
  | (go_at_call 61; refine (bC _ rfl _ _).mono ?_; rintro e1 w2 ⟨rfl,hb⟩; have N1 := U.mk (N0.out.up hb); have z0 := N1.out.x0; have z1 := N1.out.x1; clear hb)
  | (go_at_call 60; refine (afG _).mono ?_; rintro e1 w3 ⟨rfl,rfl⟩)
  | (go_at_call 59; refine (b7 N1.out.en 4 (by omega) (by omega) (by omega)).mono ?_; rintro e1 w4 ⟨rfl,r4,bJ,bX,bY⟩; rw [HQ.out] at bJ; have N2 := U.mk (N1.out.step bJ bX bY (N1.out.iX H0.out)); have u0 := N2.out.x0; have u1 := N2.out.x1; clear bJ bX bY)
  | (go_at_call 62; refine (aea _ rfl _).mono ?_; rintro e1 w5 ⟨rfl,hb⟩; have N3 := U.mk (N2.out.up hb); have v0 := N3.out.x0; have v1 := N3.out.x1; clear hb)
  | (go_at_call 63; refine (aeA (x : Int) (by omega) (by omega) _).mono ?_; rintro e1 w6 ⟨rfl,hb⟩; have N4 := U.mk (N3.out.up hb); have r0 := N4.out.x0; have r1 := N4.out.x1; clear hb)
  | (go_at_call 65; refine (TV x N4.out.en HO.out).mono ?_; rintro e1 w7 ⟨rfl,hq⟩; obtain ⟨r7,hst⟩ := N4.out.wr H0.out hq (by omega) (by omega); have N5 := U.mk hst; have q3 := hst.en.c3; have q4 := hst.en.f 3; clear hq hst))
 all_goals
  go_end0
  exact ⟨rfl,(N5.out.pos H0.out (pos + q + 4) (by omega)).out ⟨q + 4,by omega,by omega,by omega⟩⟩
theorem afo (x : Int) (Oe : -9223372036854775808 ≤ x) (jy : x < 9223372036854775808) (dep : Int) (cm : 0 ≤ dep) (dt : dep ≤ 64) {w : World} {B e b : Nat} {r : Option Nat} {pos m : Nat} {ord : Value} (h : EN w B e b r pos m ord) (ho : iP ord) (hp : pos + 100 ≤ 200000000000) (hm : m + 100 ≤ 200000000000) :
 Calls Tryz.prog 47 #[.pointer (some ⟨e,0,none⟩),.agg #[.iface 2 (.int .i64 x),.string ⟨#[120]⟩],.int .i64 dep] w fun e' w' => e' = .returned (.tuple #[]) ∧ ER w B e b r pos m ord 15 w' := by
 have kQ : decide (64 < dep) = false := by simp; omega
 have H0 := U.mk h
 have N0 := U.mk (St.start (.iface 2 (.int .i64 x)) (.string ⟨#[120]⟩) h)
 have y0 := N0.out.x0
 have y1 := N0.out.x1
 have HO := U.mk ho
 have h7 := dZ (x := pos) (a := 8) (by omega)
 obtain ⟨q,hq⟩ : ∃ q,pd pos 8 = q := ⟨_,rfl⟩
 rw [hq] at h7
 have HQ := U.mk hq
 have jN : IntKind.i64.wrap (((pos + q : Nat) : Int) + 8) = ((pos + q + 8 : Nat) : Int) := by rw [IntKind.wrap_i64]; omega
 clear h cm dt ho hq
 go_enter Tryz.func47,Tryz.ntmps47
 go_wp2_with (first
  | (go_at_call 61; have h9 := N3; refine (bC _ rfl _ _).mono ?_; rintro e1 w2 ⟨rfl,hb⟩; have N3 := U.mk (N3.out.up hb); have v0 := N3.out.x0; have v1 := N3.out.x1; clear hb h9)
  | (go_at_call 61; refine (bC _ rfl _ _).mono ?_; rintro e1 w2 ⟨rfl,hb⟩; have N1 := U.mk (N0.out.up hb); have z0 := N1.out.x0; have z1 := N1.out.x1; clear hb)
  | (go_at_call 60; refine (afE _).mono ?_; rintro e1 w3 ⟨rfl,rfl⟩)
  | (go_at_call 59; refine (b7 N1.out.en 8 (by omega) (by omega) (by omega)).mono ?_; rintro e1 w4 ⟨rfl,r4,bJ,bX,bY⟩; rw [HQ.out] at bJ; have N2 := U.mk (N1.out.step bJ bX bY (N1.out.iX H0.out)); have u0 := N2.out.x0; have u1 := N2.out.x1; clear bJ bX bY)
  | (go_at_call 62; refine (ad8 _ rfl _).mono ?_; rintro e1 w5 ⟨rfl,hb⟩; have N3 := U.mk (N2.out.up hb); have v0 := N3.out.x0; have v1 := N3.out.x1; clear hb)
  | (go_at_call 66; refine (aez x Oe jy _).mono ?_; rintro e1 w6 ⟨rfl,hb⟩; have N4 := U.mk (N3.out.up hb); have r0 := N4.out.x0; have r1 := N4.out.x1; clear hb)
  | (go_at_call 65; refine (adg x N4.out.en HO.out).mono ?_; rintro e1 w7 ⟨rfl,hq⟩; obtain ⟨r7,hst⟩ := N4.out.wr H0.out hq (by omega) (by omega); have N5 := U.mk hst; have q3 := hst.en.c3; have q4 := hst.en.f 3; clear hq hst))
 all_goals
  go_end0
  exact ⟨rfl,(N5.out.pos H0.out (pos + q + 8) (by omega)).out ⟨q + 8,by omega,by omega,by omega⟩⟩
theorem afp (x : Nat) (jy : x < 18446744073709551616) (dep : Int) (cm : 0 ≤ dep) (dt : dep ≤ 64) {w : World} {B e b : Nat} {r : Option Nat} {pos m : Nat} {ord : Value} (h : EN w B e b r pos m ord) (ho : iP ord) (hp : pos + 100 ≤ 200000000000) (hm : m + 100 ≤ 200000000000) :
 Calls Tryz.prog 47 #[.pointer (some ⟨e,0,none⟩),.agg #[.iface 22 (.int .u64 (x : Int)),.string ⟨#[116]⟩],.int .i64 dep] w fun e' w' => e' = .returned (.tuple #[]) ∧ ER w B e b r pos m ord 15 w' := by
 have kQ : decide (64 < dep) = false := by simp; omega
 have H0 := U.mk h
 have N0 := U.mk (St.start (.iface 22 (.int .u64 (x : Int))) (.string ⟨#[116]⟩) h)
 have y0 := N0.out.x0
 have y1 := N0.out.x1
 have HO := U.mk ho
 have h7 := dZ (x := pos) (a := 8) (by omega)
 obtain ⟨q,hq⟩ : ∃ q,pd pos 8 = q := ⟨_,rfl⟩
 rw [hq] at h7
 have HQ := U.mk hq
 have jN : IntKind.i64.wrap (((pos + q : Nat) : Int) + 8) = ((pos + q + 8 : Nat) : Int) := by rw [IntKind.wrap_i64]; omega
 clear h cm dt ho hq
 go_enter Tryz.func47,Tryz.ntmps47
 go_wp2_with (first
  | (go_at_call 61; have h9 := N3; refine (bC _ rfl _ _).mono ?_; rintro e1 w2 ⟨rfl,hb⟩; have N3 := U.mk (N3.out.up hb); have v0 := N3.out.x0; have v1 := N3.out.x1; clear hb h9)
  | (go_at_call 61; refine (bC _ rfl _ _).mono ?_; rintro e1 w2 ⟨rfl,hb⟩; have N1 := U.mk (N0.out.up hb); have z0 := N1.out.x0; have z1 := N1.out.x1; clear hb)
  | (go_at_call 60; refine (afH _).mono ?_; rintro e1 w3 ⟨rfl,rfl⟩)
  | (go_at_call 59; refine (b7 N1.out.en 8 (by omega) (by omega) (by omega)).mono ?_; rintro e1 w4 ⟨rfl,r4,bJ,bX,bY⟩; rw [HQ.out] at bJ; have N2 := U.mk (N1.out.step bJ bX bY (N1.out.iX H0.out)); have u0 := N2.out.x0; have u1 := N2.out.x1; clear bJ bX bY)
  | (go_at_call 62; refine (aeb _ rfl _).mono ?_; rintro e1 w5 ⟨rfl,hb⟩; have N3 := U.mk (N2.out.up hb); have v0 := N3.out.x0; have v1 := N3.out.x1; clear hb)
  | (go_at_call 63; refine (aeB (x : Int) (by omega) (by omega) _).mono ?_; rintro e1 w6 ⟨rfl,hb⟩; have N4 := U.mk (N3.out.up hb); have r0 := N4.out.x0; have r1 := N4.out.x1; clear hb)
  | (go_at_call 65; refine (adh x N4.out.en HO.out).mono ?_; rintro e1 w7 ⟨rfl,hq⟩; obtain ⟨r7,hst⟩ := N4.out.wr H0.out hq (by omega) (by omega); have N5 := U.mk hst; have q3 := hst.en.c3; have q4 := hst.en.f 3; clear hq hst))
 all_goals
  go_end0
  exact ⟨rfl,(N5.out.pos H0.out (pos + q + 8) (by omega)).out ⟨q + 8,by omega,by omega,by omega⟩⟩
theorem afw (x : Nat) (dep : Int) (cm : 0 ≤ dep) (dt : dep ≤ 64) {w : World} {B e b : Nat} {r : Option Nat} {pos m : Nat} {ord : Value} (h : EN w B e b r pos m ord) (ho : iP ord) (hp : pos + 100 ≤ 200000000000) (hm : m + 100 ≤ 200000000000) :
 Calls Tryz.prog 47 #[.pointer (some ⟨e,0,none⟩),.agg #[.iface 121 (.float .f64 x),.string ⟨#[100]⟩],.int .i64 dep] w fun e' w' => e' = .returned (.tuple #[]) ∧ ER w B e b r pos m ord 15 w' := by
 have kQ : decide (64 < dep) = false := by simp; omega
 have H0 := U.mk h
 have N0 := U.mk (St.start (.iface 121 (.float .f64 x)) (.string ⟨#[100]⟩) h)
 have y0 := N0.out.x0
 have y1 := N0.out.x1
 have HO := U.mk ho
 have h7 := dZ (x := pos) (a := 8) (by omega)
 obtain ⟨q,hq⟩ : ∃ q,pd pos 8 = q := ⟨_,rfl⟩
 rw [hq] at h7
 have HQ := U.mk hq
 have jN : IntKind.i64.wrap (((pos + q : Nat) : Int) + 8) = ((pos + q + 8 : Nat) : Int) := by rw [IntKind.wrap_i64]; omega
 clear h cm dt ho hq
 go_enter Tryz.func47,Tryz.ntmps47
 go_wp2_with (first
  | (go_at_call 61; have h9 := N3; refine (bC _ rfl _ _).mono ?_; rintro e1 w2 ⟨rfl,hb⟩; have N3 := U.mk (N3.out.up hb); have v0 := N3.out.x0; have v1 := N3.out.x1; clear hb h9)
  | (go_at_call 61; refine (bC _ rfl _ _).mono ?_; rintro e1 w2 ⟨rfl,hb⟩; have N1 := U.mk (N0.out.up hb); have z0 := N1.out.x0; have z1 := N1.out.x1; clear hb)
  | (go_at_call 60; refine (afP _).mono ?_; rintro e1 w3 ⟨rfl,rfl⟩)
  | (go_at_call 59; refine (b7 N1.out.en 8 (by omega) (by omega) (by omega)).mono ?_; rintro e1 w4 ⟨rfl,r4,bJ,bX,bY⟩; rw [HQ.out] at bJ; have N2 := U.mk (N1.out.step bJ bX bY (N1.out.iX H0.out)); have u0 := N2.out.x0; have u1 := N2.out.x1; clear bJ bX bY)
  | (go_at_call 62; refine (aej _ rfl _).mono ?_; rintro e1 w5 ⟨rfl,hb⟩; have N3 := U.mk (N2.out.up hb); have v0 := N3.out.x0; have v1 := N3.out.x1; clear hb)
  | (go_at_call 67; refine (aeG x _).mono ?_; rintro e1 w6 ⟨rfl,hb⟩; have N4 := U.mk (N3.out.up hb); have r0 := N4.out.x0; have r1 := N4.out.x1; clear hb)
  | (go_at_call 65; refine (adl x N4.out.en HO.out).mono ?_; rintro e1 w7 ⟨rfl,hq⟩; obtain ⟨r7,hst⟩ := N4.out.wr H0.out hq (by omega) (by omega); have N5 := U.mk hst; have q3 := hst.en.c3; have q4 := hst.en.f 3; clear hq hst))
 all_goals
  go_end0
  exact ⟨rfl,(N5.out.pos H0.out (pos + q + 8) (by omega)).out ⟨q + 8,by omega,by omega,by omega⟩⟩
theorem afv (x : Nat) (jy : x < 4294967296) (dep : Int) (cm : 0 ≤ dep) (dt : dep ≤ 64) {w : World} {B e b : Nat} {r : Option Nat} {pos m : Nat} {ord : Value} (h : EN w B e b r pos m ord) (ho : iP ord) (hp : pos + 100 ≤ 200000000000) (hm : m + 100 ≤ 200000000000) :
 Calls Tryz.prog 47 #[.pointer (some ⟨e,0,none⟩),.agg #[.iface 148 (.int .u32 (x : Int)),.string ⟨#[104]⟩],.int .i64 dep] w fun e' w' => e' = .returned (.tuple #[]) ∧ ER w B e b r pos m ord 15 w' := by
 have kQ : decide (64 < dep) = false := by simp; omega
 have Oh : IntKind.u32.wrap (x : Int) = (x : Int) := by simp [IntKind.wrap,IntKind.bits,IntKind.signed]; omega
 have H0 := U.mk h
 have N0 := U.mk (St.start (.iface 148 (.int .u32 (x : Int))) (.string ⟨#[104]⟩) h)
 have y0 := N0.out.x0
 have y1 := N0.out.x1
 have HO := U.mk ho
 have h7 := dZ (x := pos) (a := 4) (by omega)
 obtain ⟨q,hq⟩ : ∃ q,pd pos 4 = q := ⟨_,rfl⟩
 rw [hq] at h7
 have HQ := U.mk hq
 have jN : IntKind.i64.wrap (((pos + q : Nat) : Int) + 4) = ((pos + q + 4 : Nat) : Int) := by rw [IntKind.wrap_i64]; omega
 clear h cm dt ho hq
 go_enter Tryz.func47,Tryz.ntmps47
 go_wp2_with (first
  | (go_at_call 61; have h9 := N3; refine (bC _ rfl _ _).mono ?_; rintro e1 w2 ⟨rfl,hb⟩; have N3 := U.mk (N3.out.up hb); have v0 := N3.out.x0; have v1 := N3.out.x1; clear hb h9)
  | (go_at_call 61; refine (bC _ rfl _ _).mono ?_; rintro e1 w2 ⟨rfl,hb⟩; have N1 := U.mk (N0.out.up hb); have z0 := N1.out.x0; have z1 := N1.out.x1; clear hb)
  | (go_at_call 60; refine (afN _).mono ?_; rintro e1 w3 ⟨rfl,rfl⟩)
  | (go_at_call 59; refine (b7 N1.out.en 4 (by omega) (by omega) (by omega)).mono ?_; rintro e1 w4 ⟨rfl,r4,bJ,bX,bY⟩; rw [HQ.out] at bJ; have N2 := U.mk (N1.out.step bJ bX bY (N1.out.iX H0.out)); have u0 := N2.out.x0; have u1 := N2.out.x1; clear bJ bX bY)
  | (go_at_call 62; refine (aeh _ rfl _).mono ?_; rintro e1 w5 ⟨rfl,hb⟩; have N3 := U.mk (N2.out.up hb); have v0 := N3.out.x0; have v1 := N3.out.x1; clear hb)
  | (go_at_call 63; refine (aeF (x : Int) (by omega) (by omega) _).mono ?_; rintro e1 w6 ⟨rfl,hb⟩; have N4 := U.mk (N3.out.up hb); have r0 := N4.out.x0; have r1 := N4.out.x1; clear hb)
  | (go_at_call 65; refine (TV x N4.out.en HO.out).mono ?_; rintro e1 w7 ⟨rfl,hq⟩; obtain ⟨r7,hst⟩ := N4.out.wr H0.out hq (by omega) (by omega); have N5 := U.mk hst; have q3 := hst.en.c3; have q4 := hst.en.f 3; clear hq hst))
 all_goals
  go_end0
  exact ⟨rfl,(N5.out.pos H0.out (pos + q + 4) (by omega)).out ⟨q + 4,by omega,by omega,by omega⟩⟩
theorem Hc {w : World} {b : Nat} {r : Option Nat} {m : Nat} (h : Bf w b r m) (k : Nat) (hk : 1 ≤ k) (gL : m + k ≤ 1000000000000) (cs : List Value) (hl : cs.length = k) (h1 : ∀ v ∈ cs,jC v) (a : Nat) (T : TypeId) (Dl : a ≠ b) (hc : w.heap[a]? = some (.cells cs.toArray T (0,0))) :
 Calls Tryz.prog 128 #[.pointer (some ⟨b,0,none⟩),.slice (some ⟨a,0,none⟩) k k] w fun e w' => e = .returned (.tuple #[.int .i64 (k : Int),.nilIface]) ∧ WQ w b r m k w' := by
 have hla := (Array.getElem?_eq_some_iff.1 hc).1
 have Jv : ∀ j,((⟨a,0,none⟩ : Addr).add j).block = a := fun j => by rw [Lib.addr_add]
 refine (P0 w b r m k k cs ⟨a,0,none⟩ h hk gL hl (fun j v hj => Lib.cells_of_row hc cs.length j v (by simpa using hj)) (fun j v _ => by rw [Jv]; exact ⟨hla,Dl⟩) (by show a ≠ b; exact Dl) h1).mono ?_
 rintro e w' ⟨he,r', h2,h3,h4⟩
 exact ⟨he,r', h2,h3,h4⟩
theorem EN.set {w : World} {B e b : Nat} {r : Option Nat} {pos m : Nat} {ord : Value} (h : EN w B e b r pos m ord) (p : Addr) (v : Value) (hp : ¬ EX e b r p.block) : EN (w.setCell p v) B e b r pos m ord:=
 h.move (by rw [World.size_setCell]; exact Nat.le_refl _) (fun k hk => Below.heap_setCell w p v k (fun q => hp (q ▸ hk)))
theorem St.set {w W : World} {B e b : Nat} {r0 r : Option Nat} {ord V S : Value} {pos m : Nat} (h : St w B e b r0 ord V S W r pos m) (p : Addr) (v : Value) (h1 : w.heap.size < p.block) (hp : ¬ EX e b r p.block) : St w B e b r0 ord V S (W.setCell p v) r pos m:=
 ⟨h.en.set p v hp,(Below.heap_setCell W p v w.heap.size (by omega)).trans h.box,h.fr.set p v (.inr (by omega)),h.rn⟩
theorem Qa (g : Nat) (W : World) : (Instr.sliceAt 112 (.pointer (some ⟨g,0,none⟩)) none none none).run Tryz.prog W = .ok (.slice (some ⟨g,0,none⟩) 1 1) W := by
 have gM : Tryz.prog.arrayLen 112 = 1 := by kernel_rfl
 have hel : Tryz.prog.elem 112 = 5 := by kernel_rfl
 obtain ⟨i0,hi5,hz5⟩ := Option.map_eq_some_iff.1 IX
 simp only [Prod.mk.injEq] at hz5
 rw [run_sliceAt_array_all W 112 ⟨g,0,none⟩ (by simp [Program.arrayLen,Program.elem,Tryz.underlying112])]
 simp [gM,sizeOf,typeInfo,hel,hi5,hz5.2.1,slicedAt,Result.andThen,Addr.add]
theorem aas (x : Nat) (jy : x < 256) (dep : Int) (cm : 0 ≤ dep) (dt : dep ≤ 64) {w : World} {B e b : Nat} {r : Option Nat} {pos m : Nat} {ord : Value} (h : EN w B e b r pos m ord) (hp : pos + 100 ≤ 200000000000) (hm : m + 100 ≤ 200000000000) :
 Calls Tryz.prog 47 #[.pointer (some ⟨e,0,none⟩),.agg #[.iface 5 (.int .u8 (x : Int)),.string ⟨#[121]⟩],.int .i64 dep] w fun e' w' => e' = .returned (.tuple #[]) ∧ ER w B e b r pos m ord 15 w' := by
 have kQ : decide (64 < dep) = false := by simp; omega
 have Oh : IntKind.u8.wrap (x : Int) = (x : Int) := by simp [IntKind.wrap,IntKind.bits,IntKind.signed]; omega
 have H0 := U.mk h
 have N0 := U.mk (St.start (.iface 5 (.int .u8 (x : Int))) (.string ⟨#[121]⟩) h)
 have y0 := N0.out.x0
 have y1 := N0.out.x1
 have h7 := dZ (x := pos) (a := 1) (by omega)
 obtain ⟨q,hq⟩ : ∃ q,pd pos 1 = q := ⟨_,rfl⟩
 rw [hq] at h7
 have HQ := U.mk hq
 have jN : IntKind.i64.wrap (((pos + q : Nat) : Int) + 1) = ((pos + q + 1 : Nat) : Int) := by rw [IntKind.wrap_i64]; omega
 clear h cm dt hq
 go_enter Tryz.func47,Tryz.ntmps47
 go_wp2_with (first
  | (go_at_call 61; refine (bC _ rfl _ _).mono ?_; rintro e1 w2 ⟨rfl,hb⟩; have N1 := U.mk (N0.out.up hb); have z0 := N1.out.x0; have z1 := N1.out.x1; clear hb)
  | (go_at_call 60; refine (afD _).mono ?_; rintro e1 w3 ⟨rfl,rfl⟩)
  | (go_at_call 59; refine (b7 N1.out.en 1 (by omega) (by omega) (by omega)).mono ?_; rintro e1 w4 ⟨rfl,r4,bJ,bX,bY⟩; rw [HQ.out] at bJ; have N2 := U.mk (N1.out.step bJ bX bY (N1.out.iX H0.out)); have u0 := N2.out.x0; have u1 := N2.out.x1; clear bJ bX bY)
  | (go_at_call 62; refine (ad7 _ rfl _).mono ?_; rintro e1 w5 ⟨rfl,hb⟩; have N3 := U.mk (N2.out.up hb); have v0 := N3.out.x0; have v1 := N3.out.x1; have v0a := fun o => (N3.out.up (ab (Below.refl _ _) o)).x0; have v1a := fun o => (N3.out.up (ab (Below.refl _ _) o)).x1; clear hb)
  | fail)
 refine (aey (x : Int) (by omega) (by omega) _).mono ?_
 rintro e1 w6 ⟨rfl,hb⟩
 have gM := heap_alloc_new w5 (.cells #[.int .u8 0] 112)
 have hs := (hb.block w5.heap.size (by simp)).trans gM
 have N4 := U.mk ((N3.out.up (ab (Below.refl _ _) (.cells #[.int .u8 0] 112))).up hb)
 have s0 : w6.cell? ⟨w5.heap.size,0,none⟩ = some (.int .u8 0) := (cell_of_row w6 _ 0 _ 112 (0,0) hs).trans rfl
 have s1 := frozen_of_row w6 w5.heap.size 0 _ 112 hs
 have zG : ¬ EX e b r4 w5.heap.size := fun hx => Nat.lt_irrefl _ (N3.out.en.lt _ hx)
 have hst := N4.out.set ⟨w5.heap.size,0,none⟩ (.int .u8 (x : Int)) N3.out.lt zG
 have hrow : (w6.setCell ⟨w5.heap.size,0,none⟩ (.int .u8 (x : Int))).heap[w5.heap.size]? = some (.cells #[.int .u8 (x : Int)] 112 (0,0)) := heap_setCell_same w6 w5.heap.size 0 _ 112 _ hs
 have ce := hst.en.c0
 have N5 := U.mk hst
 have HR := U.mk hrow
 have HNX := U.mk zG
 have jZ := dS b
 have jY := cR b
 have lz := Qa w5.heap.size
 clear hb gM hs hst hrow zG
 go_wp2
 go_region_with (go_at_call 128; refine (Hc (w := (w6.setCell ⟨w5.heap.size,0,none⟩ (.int .u8 (x : Int))).drew) (N5.out.en.up (ak (Below.refl _ _))).bf 1 (by omega) (by omega) [.int .u8 (x : Int)] rfl (by intro v hv; simp at hv; subst hv; exact fp _ (by omega)) w5.heap.size 112 (fun q => HNX.out (.inr (.inl q))) HR.out).mono ?_; rintro e1 w7 ⟨rfl,hq⟩; obtain ⟨r7,hst⟩ := (N5.out.up (ak (Below.refl _ _))).wr H0.out hq (by omega) (by omega); have N6 := U.mk hst; have q3 := hst.en.c3; have q4 := hst.en.f 3; clear hq hst)
 all_goals
  go_wp2
  go_end0
  exact ⟨rfl,(N6.out.pos H0.out (pos + q + 1) (by omega)).out ⟨q + 1,by omega,by omega,by omega⟩⟩
end Go.Proofs.YtkdebhgccpfkiaaGreatDoor.au
namespace Go.Proofs.YtkdebhgccpfkiaaGreatDoor.au
open Go.RowKit Go.Proofs.aa.az Go.Proofs.aa.aM Go.Proofs.aa.aU
attribute [local go_sem] ba bh
set_option linter.unusedVariables false
set_option linter.unusedSimpArgs false
attribute [local go_sem] jB kK iy fW fV fw fU fT
theorem St.er {w W W' : World} {B e b : Nat} {r0 r : Option Nat} {ord V S : Value} {pos m p0 m0 K : Nat} (h0 : EN w B e b r0 p0 m0 ord) (h : St w B e b r0 ord V S W r pos m) (he : ER W B e b r pos m ord K W') : ∃ r' p,p ≤ K ∧ St w B e b r0 ord V S W' r' (pos + p) (m + p) := by
 obtain ⟨r', p,h1,h2,h3,h4⟩ := he
 exact ⟨r', p,h4,h.step h1 h2 h3 (h.iX h0)⟩
theorem zr {w W : World} {X : Nat → Prop} (hT : Lib.Utf8Tabs 3 4 w) (hf : Fr w W X) (hX : ∀ k,X k → 5 ≤ k) : Lib.Utf8Tabs 3 4 W := by
 have lt : ∀ {a : Addr} {v : Value},w.cell? a = some v → a.block < w.heap.size := fun h => World.block_lt_of_cell? w _ h
 refine ⟨fun c hc => ?_,fun i hi => ⟨?_,?_⟩⟩
 · have h := hT.1 c hc
   rw [World.cell?_of_block (w := w) (hf.keep 3 (lt h) (fun hx => by have := hX 3 hx; omega))]
   exact h
 · have h := (hT.2 i hi).1
   rw [World.cell?_of_block (w := w) (hf.keep 4 (lt h) (fun hx => by have := hX 4 hx; omega))]
   exact h
 · have h := (hT.2 i hi).2
   rw [World.cell?_of_block (w := w) (hf.keep 4 (lt h) (fun hx => by have := hX 4 hx; omega))]
   exact h
theorem St.tabs {w W : World} {B e b : Nat} {r0 r : Option Nat} {ord V S : Value} {pos m p0 m0 : Nat} (h0 : EN w B e b r0 p0 m0 ord) (h : St w B e b r0 ord V S W r pos m) (hT : Lib.Utf8Tabs 3 4 w) (hB : 5 ≤ B) : Lib.Utf8Tabs 3 4 W:=
 zr hT h.fr (fun k hk => Nat.le_trans hB (EX.ge h0 k hk))
theorem afx (x : Bool) (dep : Int) (cm : 0 ≤ dep) (dt : dep ≤ 64) {w : World} {B e b : Nat} {r : Option Nat} {pos m : Nat} {ord : Value} (h : EN w B e b r pos m ord) (ho : iP ord) (hp : pos + 200 ≤ 200000000000) (hm : m + 200 ≤ 200000000000) :
 Calls Tryz.prog 47 #[.pointer (some ⟨e,0,none⟩),.agg #[.iface 4 (.bool x),.string ⟨#[98]⟩],.int .i64 dep] w fun e' w' => e' = .returned (.tuple #[]) ∧ ER w B e b r pos m ord 30 w' := by
 have kQ : decide (64 < dep) = false := by simp; omega
 have H0 := U.mk h
 have N0 := U.mk (St.start (.iface 4 (.bool x)) (.string ⟨#[98]⟩) h)
 have y0 := N0.out.x0
 have y1 := N0.out.x1
 have HO := U.mk ho
 have h7 := dZ (x := pos) (a := 1) (by omega)
 obtain ⟨q,hq⟩ : ∃ q,pd pos 1 = q := ⟨_,rfl⟩
 rw [hq] at h7
 have HQ := U.mk hq
 have HD := U.mk (And.intro cm dt)
 clear h cm dt ho hq
 cases x
 all_goals
  go_enter Tryz.func47,Tryz.ntmps47
  go_wp2_with (first
   | (go_at_call 61; refine (bC _ rfl _ _).mono ?_; rintro e1 w2 ⟨rfl,hb⟩; have N1 := U.mk (N0.out.up hb); have z0 := N1.out.x0; have z1 := N1.out.x1; clear hb)
   | (go_at_call 60; refine (afQ _).mono ?_; rintro e1 w3 ⟨rfl,rfl⟩)
   | (go_at_call 59; refine (b7 N1.out.en 1 (by omega) (by omega) (by omega)).mono ?_; rintro e1 w4 ⟨rfl,r4,bJ,bX,bY⟩; rw [HQ.out] at bJ; have N2 := U.mk (N1.out.step bJ bX bY (N1.out.iX H0.out)); have u0 := N2.out.x0; have u1 := N2.out.x1; clear bJ bX bY)
   | (go_at_call 62; refine (aek _ rfl _).mono ?_; rintro e1 w5 ⟨rfl,hb⟩; have N3 := U.mk (N2.out.up hb); have v0 := N3.out.x0; have v1 := N3.out.x1; clear hb)
   | (go_at_call 64; refine (Ro _ _ _).mono ?_; rintro e1 w6 ⟨rfl,hb⟩; have N4 := U.mk (N3.out.up hb); have s0 := N4.out.x0; have s1 := N4.out.x1; clear hb)
   | (go_at_call 48; refine (Hz _ _).mono ?_; rintro e1 w7 ⟨rfl,hb⟩; have N5 := U.mk (N4.out.up hb); clear hb)
   | fail)
 · refine (DH 0 (by omega) dep HD.out.1 HD.out.2 N5.out.en HO.out (by omega) (by omega)).mono ?_
   rintro e2 w8 ⟨rfl,he⟩
   obtain ⟨r8,p,Gq,hst⟩ := N5.out.er H0.out he
   have N6 := U.mk hst
   clear he hst
   go_wp2
   go_end0
   exact ⟨rfl,N6.out.out ⟨q + p,by omega,by omega,by omega⟩⟩
 · refine (DH 1 (by omega) dep HD.out.1 HD.out.2 N5.out.en HO.out (by omega) (by omega)).mono ?_
   rintro e2 w8 ⟨rfl,he⟩
   obtain ⟨r8,p,Gq,hst⟩ := N5.out.er H0.out he
   have N6 := U.mk hst
   clear he hst
   go_wp2
   go_end0
   exact ⟨rfl,N6.out.out ⟨q + p,by omega,by omega,by omega⟩⟩
theorem EN.row {w : World} {B e b : Nat} {r : Option Nat} {pos m : Nat} {ord : Value} (h : EN w B e b r pos m ord) (g : Nat) (R : Array Value) (hp : ¬ EX e b r g) : EN (w.setRow g R) B e b r pos m ord:=
 h.move (by simp [World.setRow]) (fun k hk => setRow_other _ _ _ _ (fun q => hp (q ▸ hk)))
theorem St.row {w W : World} {B e b : Nat} {r0 r : Option Nat} {ord V S : Value} {pos m : Nat} (h : St w B e b r0 ord V S W r pos m) (g : Nat) (R : Array Value) (h1 : w.heap.size < g) (hp : ¬ EX e b r g) : St w B e b r0 ord V S (W.setRow g R) r pos m:=
 ⟨h.en.row g R hp,(setRow_other _ _ _ _ (by omega)).trans h.box,h.fr.row g R (.inr (by omega)),h.rn⟩
theorem O8 (W : World) (n : Nat) (s : ByteArray) (hn : s.size ≤ n) : ∃ R : Array Value,(Builtin.copy_ #[36,9] 3 #[.slice (some ⟨W.heap.size,0,none⟩) n n,.string s]).run Tryz.prog (W.alloc (.cells (madeCells (Value.int .u8 0).cells n) 5)) = .ok (.int .i64 (s.size : Int)) ((W.alloc (.cells (madeCells (Value.int .u8 0).cells n) 5)).setRow W.heap.size R) ∧
 R.size = n ∧ (∀ v ∈ R.toList,jC v) ∧ ((W.alloc (.cells (madeCells (Value.int .u8 0).cells n) 5)).setRow W.heap.size R).heap[W.heap.size]? = some (.cells R 5 (0,0)) := by
 have h0 := heap_alloc_new W (.cells (madeCells (Value.int .u8 0).cells n) 5)
 have hz := Fz n
 have h := Lib.run_copy_row_string (P := Tryz.prog) (W.alloc (.cells (madeCells (Value.int .u8 0).cells n) 5)) 36 9 3 5 W.heap.size 0 n n s _ 5 Tryz.underlying36 Ck h0 hn (by rw [hz.1]; omega)
 refine ⟨_,h,?_,?_,setRow_heap _ _ _ _ 5 (0,0) h0⟩
 · have hl : (Lib.byteCells s.data.toList).length = s.size := by rw [Lib.byteCells_length]; rfl
   have hc : (madeCells (Value.int .u8 0).cells n).toList.length = n := by rw [Array.length_toList]; exact hz.1
   simp only [List.size_toArray,List.length_append,List.length_take,List.length_drop,hl,hc]
   omega
 · intro v hv
   rw [List.toList_toArray] at hv
   rcases List.mem_append.1 hv with hv | hv
   · rcases List.mem_append.1 hv with hv | hv
     · exact hz.2 v (List.mem_of_mem_take hv)
     · obtain ⟨b,_,rfl⟩ := List.mem_map.mp hv; exact ⟨b,rfl⟩
   · exact hz.2 v (List.mem_of_mem_drop hv)
theorem afq (x : ByteArray) (hx : x.size ≤ 65536) (hV : Lib.validD x.data.toList = true) (hz : Lib.indexByte x.data.toList 0 = -1) (dep : Int) (cm : 0 ≤ dep) (dt : dep ≤ 64) {w : World} {B e b : Nat} {r : Option Nat} {pos m : Nat} {ord : Value} (h : EN w B e b r pos m ord) (ho : iP ord) (hT : Lib.Utf8Tabs 3 4 w) (hB : 5 ≤ B) (hp : pos + 100000 ≤ 200000000000) (hm : m + 100000 ≤ 200000000000) :
 Calls Tryz.prog 47 #[.pointer (some ⟨e,0,none⟩),.agg #[.iface 9 (.string x),.string ⟨#[115]⟩],.int .i64 dep] w fun e' w' => e' = .returned (.tuple #[]) ∧ ER w B e b r pos m ord (x.size + 40) w' := by
 have kQ : decide (64 < dep) = false := by simp; omega
 have H0 := U.mk h
 have N0 := U.mk (St.start (.iface 9 (.string x)) (.string ⟨#[115]⟩) h)
 have y0 := N0.out.x0
 have y1 := N0.out.x1
 have HO := U.mk ho
 have HT := U.mk (And.intro hT hB)
 have HV := U.mk (And.intro hV hz)
 have h7 := dZ (x := pos) (a := 4) (by omega)
 obtain ⟨q,hq⟩ : ∃ q,pd pos 4 = q := ⟨_,rfl⟩
 rw [hq] at h7
 have HQ := U.mk hq
 have HD := U.mk (And.intro cm dt)
 obtain ⟨n,hn⟩ : ∃ n,x.size = n := ⟨_,rfl⟩
 rw [hn] at hx
 have ix := U.mk hn
 have aeO : IntKind.u32.wrap (n : Int) = (n : Int) := by simp [IntKind.wrap,IntKind.bits,IntKind.signed]; omega
 clear h cm dt ho hq hV hz hT hB
 go_enter Tryz.func47,Tryz.ntmps47
 go_wp2_with (first
  | (go_at_call 61; have h9 := N4; refine (bC _ rfl _ _).mono ?_; rintro e1 w2 ⟨rfl,hb⟩; have N4 := U.mk (N4.out.up hb); have s0 := N4.out.x0; have s1 := N4.out.x1; clear hb h9)
  | (go_at_call 61; refine (bC _ rfl _ _).mono ?_; rintro e1 w2 ⟨rfl,hb⟩; have N1 := U.mk (N0.out.up hb); have z0 := N1.out.x0; have z1 := N1.out.x1; clear hb)
  | (go_at_call 60; refine (afI _).mono ?_; rintro e1 w3 ⟨rfl,rfl⟩)
  | (go_at_call 59; refine (b7 N1.out.en 4 (by omega) (by omega) (by omega)).mono ?_; rintro e1 w4 ⟨rfl,r4,bJ,bX,bY⟩; rw [HQ.out] at bJ; have N2 := U.mk (N1.out.step bJ bX bY (N1.out.iX H0.out)); have u0 := N2.out.x0; have u1 := N2.out.x1; clear bJ bX bY)
  | (go_at_call 62; refine (aec _ rfl _).mono ?_; rintro e1 w5 ⟨rfl,hb⟩; have N3 := U.mk (N2.out.up hb); have v0 := N3.out.x0; have v1 := N3.out.x1; clear hb)
  | (go_at_call 68; refine (Yk _ _ _).mono ?_; rintro e1 w6 ⟨rfl,hb⟩; have N4 := U.mk (N3.out.up hb); have s0 := N4.out.x0; have s1 := N4.out.x1; clear hb)
  | (go_at_call 41; refine (Any.utf8_ValidString Tryz.Cc x _ (by rw [ix.out]; omega) (N4.out.tabs H0.out HT.out.1 HT.out.2)).mono ?_; rw [HV.out.1]; rintro e1 w7 ⟨rfl,hb⟩; have N4 := U.mk (N4.out.up hb); have s0 := N4.out.x0; have s1 := N4.out.x1; clear hb)
  | (go_at_call 69; refine (Tryz.strings_IndexByte x 0 _).mono ?_; rintro e1 w8 ⟨Lb,rfl⟩; have ZA := Lb.trans (congrArg (fun z => Ending.returned (.int .i64 z)) HV.out.2); subst ZA; clear Lb)
  | fail)
 refine (Hz (n : Int) _).mono ?_
 rintro e2 ki ⟨rfl,hb⟩
 have N5 := U.mk (N4.out.up hb)
 clear hb
 go_wp2_with fail
 refine (DH n (by omega) dep HD.out.1 HD.out.2 N5.out.en HO.out (by omega) (by omega)).mono ?_
 rintro e3 vM ⟨rfl,he⟩
 obtain ⟨Ge,p,Gq,hst⟩ := N5.out.er H0.out he
 have a0 := hst.x0
 have a1 := hst.x1
 have N6 := U.mk hst
 clear he hst
 go_wp2_with fail
 refine (Qz x _ _).mono ?_
 rw [ix.out]
 rintro e4 gG ⟨rfl,hb⟩
 have N7 := U.mk (N6.out.up hb)
 clear hb
 obtain ⟨l,hl⟩ : ∃ l,n + 1 = l := ⟨_,rfl⟩
 have Oj : IntKind.i64.wrap ((n : Int) + 1) = (l : Int) := by rw [IntKind.wrap_i64]; omega
 have Bq : IntKind.i64.wrap ((l : Int) - 1) = (n : Int) := by rw [IntKind.wrap_i64]; omega
 have i' := dL l (by omega) _ rfl (l : Int) rfl gG
 obtain ⟨R,zJ,GC,GB,ko⟩ := O8 gG l x (by rw [ix.out]; omega)
 rw [ix.out] at zJ
 have Eu : ¬ EX e b Ge gG.heap.size := fun hx => Nat.lt_irrefl _ (N7.out.en.lt _ hx)
 have kx := N7.out.up (ab (Below.refl _ _) (.cells (madeCells (Value.int .u8 0).cells l) 5))
 have hst := kx.row gG.heap.size R N7.out.lt Eu
 generalize madeCells (Value.int .u8 0).cells l = Zc at i' zJ ko kx hst
 have GX := U.mk Eu
 have N8 := U.mk hst
 have HR := U.mk (And.intro GC (And.intro GB ko))
 have HG := U.mk N7.out.lt
 obtain ⟨v9,Gl⟩ : ∃ v9,R[n]? = some v9 := ⟨_,Array.getElem?_eq_getElem (by omega)⟩
 have i0 := (cell_of_row _ gG.heap.size n R 5 (0,0) ko).trans Gl
 have i1 := frozen_of_row _ gG.heap.size n R 5 ko
 have yP := hst.set ⟨gG.heap.size,n,none⟩ (.int .u8 0) N7.out.lt Eu
 have ce := yP.en.c0
 have hrow := heap_setCell_same _ gG.heap.size n R 5 (.int .u8 0) ko
 have N9 := U.mk yP
 have HRW := U.mk hrow
 have jZ := dS b
 have jY := cR b
 clear yP hrow
 clear hst kx Eu GC GB ko Gl
 have k1 : ((0 : Int) ≤ (n : Int)) = True := eq_true (by omega)
 have k2 : ((n : Int) < (l : Int)) = True := eq_true (by omega)
 have k3 : (n < l) = True := eq_true (by omega)
 go_wp2_with fail
 refine (Hc N9.out.en.bf l (by omega) (by omega) (R.setIfInBounds n (.int .u8 0)).toList (by rw [Array.length_toList,Array.size_setIfInBounds]; exact HR.out.1) (by
  intro v hv
  obtain ⟨j,hj⟩ := List.mem_iff_getElem?.1 hv
  rw [Array.toList_setIfInBounds,List.getElem?_set] at hj
  by_cases xB : n = j
  · rw [if_pos xB] at hj
    split at hj
    · injection hj with hj; subst hj; exact ⟨0,rfl⟩
    · cases hj
  · rw [if_neg xB] at hj
    exact HR.out.2.1 v (List.mem_of_getElem? hj)) gG.heap.size 5 (fun q => GX.out (.inr (.inl q))) (by rw [Array.toArray_toList]; exact HRW.out)).mono ?_
 rintro e5 Kn ⟨rfl,hq⟩
 obtain ⟨r13,hst⟩ := N9.out.wr H0.out hq (by omega) (by omega)
 have q3 := hst.en.c3
 have q4 := hst.en.f 3
 have JY := U.mk hst
 clear hq hst
 have jN : IntKind.i64.wrap (((pos + q + p : Nat) : Int) + (l : Int)) = ((pos + q + p + l : Nat) : Int) := by rw [IntKind.wrap_i64]; omega
 go_wp2
 go_end0
 exact ⟨rfl,(JY.out.pos H0.out (pos + q + p + l) (by omega)).out ⟨q + p + l,by omega,by omega,by omega⟩⟩
theorem afs (x : ByteArray) (hx : x.size ≤ 65536) (hV : Lib.validD x.data.toList = true) (hz : Lib.indexByte x.data.toList 0 = -1) (kp : Nat) (Tq : av.f kp x = some true) (dep : Int) (cm : 0 ≤ dep) (dt : dep ≤ 64) {w : World} {B e b : Nat} {r : Option Nat} {pos m : Nat} {ord : Value} (h : EN w B e b r pos m ord) (ho : iP ord) (hT : Lib.Utf8Tabs 3 4 w) (hB : 5 ≤ B) (hp : pos + 100000 ≤ 200000000000) (hm : m + 100000 ≤ 200000000000) :
 Calls Tryz.prog 47 #[.pointer (some ⟨e,0,none⟩),.agg #[.iface 123 (.string x),.string ⟨#[111]⟩],.int .i64 dep] w fun e' w' => e' = .returned (.tuple #[]) ∧ ER w B e b r pos m ord (x.size + 40) w' := by
 have kQ : decide (64 < dep) = false := by simp; omega
 have H0 := U.mk h
 have N0 := U.mk (St.start (.iface 123 (.string x)) (.string ⟨#[111]⟩) h)
 have y0 := N0.out.x0
 have y1 := N0.out.x1
 have HO := U.mk ho
 have HT := U.mk (And.intro hT hB)
 have HV := U.mk (And.intro hV (And.intro hz Tq))
 have h7 := dZ (x := pos) (a := 4) (by omega)
 obtain ⟨q,hq⟩ : ∃ q,pd pos 4 = q := ⟨_,rfl⟩
 rw [hq] at h7
 have HQ := U.mk hq
 have HD := U.mk (And.intro cm dt)
 obtain ⟨n,hn⟩ : ∃ n,x.size = n := ⟨_,rfl⟩
 rw [hn] at hx
 have ix := U.mk hn
 have aeO : IntKind.u32.wrap (n : Int) = (n : Int) := by simp [IntKind.wrap,IntKind.bits,IntKind.signed]; omega
 clear h cm dt ho hq hV hz Tq hT hB
 go_enter Tryz.func47,Tryz.ntmps47
 go_wp2_with (first
  | (go_at_call 61; have h9 := N4; refine (bC _ rfl _ _).mono ?_; rintro e1 w2 ⟨rfl,hb⟩; have N4 := U.mk (N4.out.up hb); have s0 := N4.out.x0; have s1 := N4.out.x1; clear hb h9)
  | (go_at_call 61; refine (bC _ rfl _ _).mono ?_; rintro e1 w2 ⟨rfl,hb⟩; have N1 := U.mk (N0.out.up hb); have z0 := N1.out.x0; have z1 := N1.out.x1; clear hb)
  | (go_at_call 60; refine (afK _).mono ?_; rintro e1 w3 ⟨rfl,rfl⟩)
  | (go_at_call 59; refine (b7 N1.out.en 4 (by omega) (by omega) (by omega)).mono ?_; rintro e1 w4 ⟨rfl,r4,bJ,bX,bY⟩; rw [HQ.out] at bJ; have N2 := U.mk (N1.out.step bJ bX bY (N1.out.iX H0.out)); have u0 := N2.out.x0; have u1 := N2.out.x1; clear bJ bX bY)
  | (go_at_call 62; refine (aee _ rfl _).mono ?_; rintro e1 w5 ⟨rfl,hb⟩; have N3 := U.mk (N2.out.up hb); have v0 := N3.out.x0; have v1 := N3.out.x1; clear hb)
  | (go_at_call 68; refine (Yl _ _ _).mono ?_; rintro e1 w6 ⟨rfl,hb⟩; have N4 := U.mk (N3.out.up hb); have s0 := N4.out.x0; have s1 := N4.out.x1; clear hb)
  | (go_at_call 41; refine (Any.utf8_ValidString Tryz.Cc x _ (by rw [ix.out]; omega) (N4.out.tabs H0.out HT.out.1 HT.out.2)).mono ?_; rw [HV.out.1]; rintro e1 w7 ⟨rfl,hb⟩; have N4 := U.mk (N4.out.up hb); have s0 := N4.out.x0; have s1 := N4.out.x1; clear hb)
  | (go_at_call 69; refine (Tryz.strings_IndexByte x 0 _).mono ?_; rintro e1 w8 ⟨Lb,rfl⟩; have ZA := Lb.trans (congrArg (fun z => Ending.returned (.int .i64 z)) HV.out.2.1); subst ZA; clear Lb)
  | (go_at_call 70; refine (av.calls kp x true _ HV.out.2.2).mono ?_; rintro e1 w9 ⟨rfl,hb⟩; have N4 := U.mk (N4.out.up hb); have s0 := N4.out.x0; have s1 := N4.out.x1; clear hb)
  | fail)
 refine (Hz (n : Int) _).mono ?_
 rintro e2 ki ⟨rfl,hb⟩
 have N5 := U.mk (N4.out.up hb)
 clear hb
 go_wp2_with fail
 refine (DH n (by omega) dep HD.out.1 HD.out.2 N5.out.en HO.out (by omega) (by omega)).mono ?_
 rintro e3 vM ⟨rfl,he⟩
 obtain ⟨Ge,p,Gq,hst⟩ := N5.out.er H0.out he
 have a0 := hst.x0
 have a1 := hst.x1
 have N6 := U.mk hst
 clear he hst
 go_wp2_with fail
 refine (YA x _ _).mono ?_
 rw [ix.out]
 rintro e4 gG ⟨rfl,hb⟩
 have N7 := U.mk (N6.out.up hb)
 clear hb
 obtain ⟨l,hl⟩ : ∃ l,n + 1 = l := ⟨_,rfl⟩
 have Oj : IntKind.i64.wrap ((n : Int) + 1) = (l : Int) := by rw [IntKind.wrap_i64]; omega
 have Bq : IntKind.i64.wrap ((l : Int) - 1) = (n : Int) := by rw [IntKind.wrap_i64]; omega
 have i' := dL l (by omega) _ rfl (l : Int) rfl gG
 obtain ⟨R,zJ,GC,GB,ko⟩ := O8 gG l x (by rw [ix.out]; omega)
 rw [ix.out] at zJ
 have Eu : ¬ EX e b Ge gG.heap.size := fun hx => Nat.lt_irrefl _ (N7.out.en.lt _ hx)
 have kx := N7.out.up (ab (Below.refl _ _) (.cells (madeCells (Value.int .u8 0).cells l) 5))
 have hst := kx.row gG.heap.size R N7.out.lt Eu
 generalize madeCells (Value.int .u8 0).cells l = Zc at i' zJ ko kx hst
 have GX := U.mk Eu
 have N8 := U.mk hst
 have HR := U.mk (And.intro GC (And.intro GB ko))
 have HG := U.mk N7.out.lt
 obtain ⟨v9,Gl⟩ : ∃ v9,R[n]? = some v9 := ⟨_,Array.getElem?_eq_getElem (by omega)⟩
 have i0 := (cell_of_row _ gG.heap.size n R 5 (0,0) ko).trans Gl
 have i1 := frozen_of_row _ gG.heap.size n R 5 ko
 have yP := hst.set ⟨gG.heap.size,n,none⟩ (.int .u8 0) N7.out.lt Eu
 have ce := yP.en.c0
 have hrow := heap_setCell_same _ gG.heap.size n R 5 (.int .u8 0) ko
 have N9 := U.mk yP
 have HRW := U.mk hrow
 have jZ := dS b
 have jY := cR b
 clear yP hrow
 clear hst kx Eu GC GB ko Gl
 have k1 : ((0 : Int) ≤ (n : Int)) = True := eq_true (by omega)
 have k2 : ((n : Int) < (l : Int)) = True := eq_true (by omega)
 have k3 : (n < l) = True := eq_true (by omega)
 go_wp2_with fail
 refine (Hc N9.out.en.bf l (by omega) (by omega) (R.setIfInBounds n (.int .u8 0)).toList (by rw [Array.length_toList,Array.size_setIfInBounds]; exact HR.out.1) (by
  intro v hv
  obtain ⟨j,hj⟩ := List.mem_iff_getElem?.1 hv
  rw [Array.toList_setIfInBounds,List.getElem?_set] at hj
  by_cases xB : n = j
  · rw [if_pos xB] at hj
    split at hj
    · injection hj with hj; subst hj; exact ⟨0,rfl⟩
    · cases hj
  · rw [if_neg xB] at hj
    exact HR.out.2.1 v (List.mem_of_getElem? hj)) gG.heap.size 5 (fun q => GX.out (.inr (.inl q))) (by rw [Array.toArray_toList]; exact HRW.out)).mono ?_
 rintro e5 Kn ⟨rfl,hq⟩
 obtain ⟨r13,hst⟩ := N9.out.wr H0.out hq (by omega) (by omega)
 have q3 := hst.en.c3
 have q4 := hst.en.f 3
 have JY := U.mk hst
 clear hq hst
 have jN : IntKind.i64.wrap (((pos + q + p : Nat) : Int) + (l : Int)) = ((pos + q + p + l : Nat) : Int) := by rw [IntKind.wrap_i64]; omega
 go_wp2
 go_end0
 exact ⟨rfl,(JY.out.pos H0.out (pos + q + p + l) (by omega)).out ⟨q + p + l,by omega,by omega,by omega⟩⟩
theorem Vb (W : World) (g n : Nat) (s : ByteArray) (hn : s.size ≤ n) (Z : Array Value) (hZ : Z = madeCells (Value.int .u8 0).cells n) (h0 : W.heap[g]? = some (.cells Z 5 (0,0))) : ∃ R : Array Value,(Builtin.copy_ #[36,9] 3 #[.slice (some ⟨g,0,none⟩) n n,.string s]).run Tryz.prog W = .ok (.int .i64 (s.size : Int)) (W.setRow g R) ∧
 R.size = n ∧ (∀ v ∈ R.toList,jC v) ∧ (W.setRow g R).heap[g]? = some (.cells R 5 (0,0)) := by
 subst hZ
 have hz := Fz n
 have h := Lib.run_copy_row_string (P := Tryz.prog) W 36 9 3 5 g 0 n n s _ 5 Tryz.underlying36 Ck h0 hn (by rw [hz.1]; omega)
 refine ⟨_,h,?_,?_,setRow_heap _ _ _ _ 5 (0,0) h0⟩
 · have hl : (Lib.byteCells s.data.toList).length = s.size := by rw [Lib.byteCells_length]; rfl
   have hc : (madeCells (Value.int .u8 0).cells n).toList.length = n := by rw [Array.length_toList]; exact hz.1
   simp only [List.size_toArray,List.length_append,List.length_take,List.length_drop,hl,hc]
   omega
 · intro v hv
   rw [List.toList_toArray] at hv
   rcases List.mem_append.1 hv with hv | hv
   · rcases List.mem_append.1 hv with hv | hv
     · exact hz.2 v (List.mem_of_mem_take hv)
     · obtain ⟨b,_,rfl⟩ := List.mem_map.mp hv; exact ⟨b,rfl⟩
   · exact hz.2 v (List.mem_of_mem_drop hv)
theorem Qb {R : Array Value} {n : Nat} (h : ∀ v ∈ R.toList,jC v) : ∀ v ∈ (R.setIfInBounds n (.int .u8 0)).toList,jC v := by
 intro v hv
 obtain ⟨j,hj⟩ := List.mem_iff_getElem?.1 hv
 rw [Array.toList_setIfInBounds,List.getElem?_set] at hj
 by_cases xB : n = j
 · rw [if_pos xB] at hj
   split at hj
   · injection hj with hj; subst hj; exact ⟨0,rfl⟩
   · cases hj
 · rw [if_neg xB] at hj
   exact h v (List.mem_of_getElem? hj)
structure S2 (w : World) (B e b : Nat) (r0 : Option Nat) (ord V S : Value) (G : Nat) (o : Obj) (W : World) (r : Option Nat) (pos m : Nat) : Prop where
 st : St w B e b r0 ord V S W r pos m
 row : W.heap[G]? = some o
 gt : w.heap.size < G
 nx : ¬ EX e b r G
theorem S2.start {w W : World} {B e b : Nat} {r0 r : Option Nat} {ord V S : Value} {pos m : Nat} (h : St w B e b r0 ord V S W r pos m) (cs : Array Value) (t : TypeId) : S2 w B e b r0 ord V S W.heap.size (.cells cs t (0,0)) (W.alloc (.cells cs t)) r pos m:=
 ⟨h.up (ab (Below.refl _ _) _),heap_alloc_new _ _,h.lt,fun hx => Nat.lt_irrefl _ (h.en.lt _ hx)⟩
theorem S2.up {w W W' : World} {B e b : Nat} {r0 r : Option Nat} {ord V S : Value} {G : Nat} {o : Obj} {pos m : Nat} (h : S2 w B e b r0 ord V S G o W r pos m) (hb : Below W.heap.size W W') : S2 w B e b r0 ord V S G o W' r pos m:=
 ⟨h.st.up hb,(hb.block G (Array.getElem?_eq_some_iff.1 h.row).1).trans h.row,h.gt,h.nx⟩
theorem S2.er {w W W' : World} {B e b : Nat} {r0 r : Option Nat} {ord V S : Value} {G : Nat} {o : Obj} {pos m p0 m0 K : Nat} (h0 : EN w B e b r0 p0 m0 ord) (h : S2 w B e b r0 ord V S G o W r pos m) (he : ER W B e b r pos m ord K W') : ∃ r' p,p ≤ K ∧ S2 w B e b r0 ord V S G o W' r' (pos + p) (m + p) := by
 obtain ⟨r', p,h1,h2,h3,h4⟩ := he
 have hlt := (Array.getElem?_eq_some_iff.1 h.row).1
 refine ⟨r', p,h4,h.st.step h1 h2 h3 (h.st.iX h0),(h2.keep G hlt h.nx).trans h.row,h.gt,?_⟩
 rintro (hx | hx | hx)
 · exact h.nx (.inl hx)
 · exact h.nx (.inr (.inl hx))
 · rcases h3 with rfl | ⟨g,rfl,hg⟩
   · exact h.nx (.inr (.inr hx))
   · obtain rfl := Option.some.inj hx
     omega
theorem S2.c {w W : World} {B e b : Nat} {r0 r : Option Nat} {ord V S : Value} {G : Nat} {cs : Array Value} {t : TypeId} {pos m : Nat} (h : S2 w B e b r0 ord V S G (.cells cs t (0,0)) W r pos m) (i : Nat) (v : Value) (hv : cs[i]? = some v) : W.cell? ⟨G,i,none⟩ = some v := (cell_of_row W G i _ t (0,0) h.row).trans hv
theorem Hi : (Tryz.prog.info? 86).map (·.size) = some 2 := by kernel_rfl
theorem ae8 (x s : ByteArray) (w : World) : Calls Tryz.prog 78 #[.agg #[.iface 131 (.agg #[.string x]),.string s],.int .i64 0] w fun e w' => e = .returned (.agg #[.iface 9 (.string x),.string ⟨#[115]⟩]) ∧ Below w.heap.size w w' := by
 have hb1 := ab (Below.refl w.heap.size w) (.cells #[.iface 131 (.agg #[.string x]),.string s] 86)
 have k1 := heap_alloc_new (w.alloc (.cells #[.iface 131 (.agg #[.string x]),.string s] 86)) (.cells #[.nilIface,.string ⟨#[]⟩] 86)
 rw [World.size_alloc] at k1
 have hb2 := ab hb1 (.cells #[.nilIface,.string ⟨#[]⟩] 86)
 have k2 := (heap_alloc_old _ (.cells #[.string x] 131) (Array.getElem?_eq_some_iff.1 k1).1).trans k1
 have fY := ab hb2 (.cells #[.string x] 131)
 have K2 := U.mk k2
 have bU := U.mk fY
 clear hb1 k1 hb2 k2 fY
 go_enter Tryz.func78,Tryz.ntmps78
 go_wp2_with fail
 refine (jE 9 (.string x) [115] _ (MG x _)).mono ?_
 rintro e1 w3 ⟨rfl,hb⟩
 have k3 := (hb.block _ (Array.getElem?_eq_some_iff.1 K2.out).1).trans K2.out
 have gy := U.mk (aw bU.out hb)
 have hbs : Bs [115] = ⟨#[115]⟩ := rfl
 rw [hbs]
 have c0 := (cell_of_row w3 (w.heap.size + 1) 0 _ 86 (0,0) k3).trans rfl
 have c1 := (cell_of_row w3 (w.heap.size + 1) 1 _ 86 (0,0) k3).trans rfl
 have z0 := frozen_of_row w3 (w.heap.size + 1) 0 _ 86 k3
 have z1 := frozen_of_row w3 (w.heap.size + 1) 1 _ 86 k3
 have H1 := U.mk (heap_setCell_same _ _ 1 _ _ (.string ⟨#[115]⟩) (heap_setCell_same _ _ 0 _ _ (.iface 9 (.string x)) k3))
 clear hb k3
 go_wp2_with fail
 refine bodyPost_ret (results_cell_row rfl _ _ (w.heap.size + 1) 86 _ (0,0) _ rfl H1.out Tryz.underlying86 rfl Hi) rfl ?_
 exact ⟨rfl,(gy.out.setCell (by show w.heap.size ≤ w.heap.size + 1; omega) _).setCell (by show w.heap.size ≤ w.heap.size + 1; omega) _⟩
theorem aav (x : ByteArray) (hx : x.size ≤ 65536) (dep : Int) (cm : 0 ≤ dep) (dt : dep ≤ 64) {w : World} {B e b : Nat} {r : Option Nat} {pos m : Nat} {ord : Value} (h : EN w B e b r pos m ord) (hp : pos + 100000 ≤ 200000000000) (hm : m + 100000 ≤ 200000000000) :
 Calls Tryz.prog 47 #[.pointer (some ⟨e,0,none⟩),.agg #[.iface 131 (.agg #[.string x]),.string ⟨#[103]⟩],.int .i64 dep] w fun e' w' => e' = .returned (.tuple #[]) ∧ ER w B e b r pos m ord (x.size + 40) w' := by
 have kQ : decide (64 < dep) = false := by simp; omega
 have H0 := U.mk h
 have N0 := U.mk (St.start (.iface 131 (.agg #[.string x])) (.string ⟨#[103]⟩) h)
 have y0 := N0.out.x0
 have y1 := N0.out.x1
 have h7 := dZ (x := pos) (a := 1) (by omega)
 obtain ⟨q,hq⟩ : ∃ q,pd pos 1 = q := ⟨_,rfl⟩
 rw [hq] at h7
 have HQ := U.mk hq
 have HD := U.mk (And.intro cm dt)
 obtain ⟨n,hn⟩ : ∃ n,x.size = n := ⟨_,rfl⟩
 rw [hn] at hx
 have ix := U.mk hn
 obtain ⟨n8,hn8⟩ : ∃ n8,n % 256 = n8 := ⟨_,rfl⟩
 have hw8 : IntKind.u8.wrap (n : Int) = (n8 : Int) := by rw [IntKind.wrap_u8]; omega
 have ae3 : n8 < 256 := by omega
 clear h cm dt hq hn hn8
 go_enter Tryz.func47,Tryz.ntmps47
 go_wp2_with (first
  | (go_at_call 61; have h9 := N3; refine (bC _ rfl _ _).mono ?_; rintro e1 w2 ⟨rfl,hb⟩; have N3 := U.mk (N3.out.up hb); have v0 := N3.out.x0; have v1 := N3.out.x1; clear hb h9)
  | (go_at_call 61; refine (bC _ rfl _ _).mono ?_; rintro e1 w2 ⟨rfl,hb⟩; have N1 := U.mk (N0.out.up hb); have z0 := N1.out.x0; have z1 := N1.out.x1; clear hb)
  | (go_at_call 60; refine (afO _).mono ?_; rintro e1 w3 ⟨rfl,rfl⟩)
  | (go_at_call 59; refine (b7 N1.out.en 1 (by omega) (by omega) (by omega)).mono ?_; rintro e1 w4 ⟨rfl,r4,bJ,bX,bY⟩; rw [HQ.out] at bJ; have N2 := U.mk (N1.out.step bJ bX bY (N1.out.iX H0.out)); have u0 := N2.out.x0; have u1 := N2.out.x1; clear bJ bX bY)
  | (go_at_call 62; refine (aei _ rfl _).mono ?_; rintro e1 w5 ⟨rfl,hb⟩; have N3 := U.mk (N2.out.up hb); have v0 := N3.out.x0; have v1 := N3.out.x1; clear hb)
  | (go_at_call 78; refine (ae8 x _ _).mono ?_; rintro e1 w6 ⟨rfl,hb⟩; have N4 := U.mk (N3.out.up hb); clear hb)
  | fail)
 have jz := S2.start N4.out #[.iface 9 (.string x),.string ⟨#[115]⟩] 86
 have b0 := jz.c 0 _ rfl
 have b1 := jz.c 1 _ rfl
 have N5 := U.mk jz
 have hG : w6.heap.size = w6.heap.size := rfl
 clear jz hG
 refine (Qz x _ _).mono ?_
 rw [ix.out]
 rintro e2 w7 ⟨rfl,hb⟩
 have N6 := U.mk (N5.out.up hb)
 clear hb
 go_wp2_with fail
 refine (adW (n8 : Int) _).mono ?_
 rintro e3 w8 ⟨rfl,hb⟩
 have N7 := U.mk (N6.out.up hb)
 clear hb
 go_wp2_with fail
 refine (aas n8 ae3 dep HD.out.1 HD.out.2 N7.out.st.en (by omega) (by omega)).mono ?_
 rintro e4 w9 ⟨rfl,he⟩
 obtain ⟨r9,p,Gq,hst⟩ := N7.out.er H0.out he
 have a0 := hst.c 0 _ rfl
 have a1 := hst.c 1 _ rfl
 have N8 := U.mk hst
 clear he hst
 go_wp2_with fail
 refine (Qz x _ _).mono ?_
 rw [ix.out]
 rintro e5 gG ⟨rfl,hb⟩
 have I4 := N8.out.up hb
 have N9 := U.mk I4
 clear hb
 obtain ⟨l,hl⟩ : ∃ l,n + 1 = l := ⟨_,rfl⟩
 have Oj : IntKind.i64.wrap ((n : Int) + 1) = (l : Int) := by rw [IntKind.wrap_i64]; omega
 have Bq : IntKind.i64.wrap ((l : Int) - 1) = (n : Int) := by rw [IntKind.wrap_i64]; omega
 have i' := dL l (by omega) _ rfl (l : Int) rfl gG
 have kx := I4.up (ab (Below.refl _ _) (.cells (madeCells (Value.int .u8 0).cells l) 5))
 have gM := heap_alloc_new gG (.cells (madeCells (Value.int .u8 0).cells l) 5)
 obtain ⟨Zc,hZ⟩ : ∃ Zc,Zc = madeCells (Value.int .u8 0).cells l := ⟨_,rfl⟩
 rw [← hZ] at i' kx gM
 have j0 := kx.c 0 _ rfl
 have j1 := kx.c 1 _ rfl
 have JY := U.mk kx
 have BU := U.mk (And.intro gM hZ)
 have GX := U.mk (fun hx : EX e b r9 gG.heap.size => Nat.lt_irrefl _ (I4.st.en.lt _ hx))
 have HLT := U.mk I4.st.lt
 clear I4 kx gM hZ
 have k1 : ((0 : Int) ≤ (n : Int)) = True := eq_true (by omega)
 have k2 : ((n : Int) < (l : Int)) = True := eq_true (by omega)
 have k3 : (n < l) = True := eq_true (by omega)
 go_wp2_with fail
 refine (Yk x _ _).mono ?_
 rintro e6 Kn ⟨rfl,hb⟩
 have hrow := (hb.block _ (Array.getElem?_eq_some_iff.1 BU.out.1).1).trans BU.out.1
 have yP := (JY.out.up hb).st
 obtain ⟨g,hg⟩ : ∃ g,gG.heap.size = g := ⟨_,rfl⟩
 simp only [hg] at hrow GX HLT ⊢
 obtain ⟨R,zJ,GC,GB,ko⟩ := Vb Kn g l x (by rw [ix.out]; omega) Zc BU.out.2 hrow
 rw [ix.out] at zJ
 have Zf := yP.row g R HLT.out GX.out
 obtain ⟨v9,Gl⟩ : ∃ v9,R[n]? = some v9 := ⟨_,Array.getElem?_eq_getElem (by omega)⟩
 have i0 := (cell_of_row _ g n R 5 (0,0) ko).trans Gl
 have i1 := frozen_of_row _ g n R 5 ko
 have QX := Zf.set ⟨g,n,none⟩ (.int .u8 0) HLT.out GX.out
 have ce := QX.en.c0
 have hrw := heap_setCell_same _ g n R 5 (.int .u8 0) ko
 have N11 := U.mk QX
 have HR := U.mk (And.intro GC (And.intro GB hrw))
 have jZ := dS b
 have jY := cR b
 clear hrow yP Zf QX GC GB ko Gl hrw hb hg
 go_wp2_with fail
 refine (Hc N11.out.en.bf l (by omega) (by omega) (R.setIfInBounds n (.int .u8 0)).toList (by rw [Array.length_toList,Array.size_setIfInBounds]; exact HR.out.1) (Qb HR.out.2.1) g 5 (fun q => GX.out (.inr (.inl q))) (by rw [Array.toArray_toList]; exact HR.out.2.2)).mono ?_
 rintro e5 w14 ⟨rfl,hq⟩
 obtain ⟨r14,hst⟩ := N11.out.wr H0.out hq (by omega) (by omega)
 have q3 := hst.en.c3
 have q4 := hst.en.f 3
 have N12 := U.mk hst
 clear hq hst
 have jN : IntKind.i64.wrap (((pos + q + p : Nat) : Int) + (l : Int)) = ((pos + q + p + l : Nat) : Int) := by rw [IntKind.wrap_i64]; omega
 go_wp2
 go_end0
 exact ⟨rfl,(N12.out.pos H0.out (pos + q + p + l) (by omega)).out ⟨q + p + l,by omega,by omega,by have h9 := ix.out; omega⟩⟩
end Go.Proofs.YtkdebhgccpfkiaaGreatDoor.au
namespace Go.Proofs.YtkdebhgccpfkiaaGreatDoor.au
open Go.RowKit Go.Proofs.aa.az Go.Proofs.aa.aM Go.Proofs.aa.aU
attribute [local go_sem] ba bh
set_option linter.unusedVariables false
set_option linter.unusedSimpArgs false
open Go.Proofs.YtkdebhgccpfkiaaGreatDoor.fD Go.Proofs.YtkdebhgccpfkiaaGreatDoor.fO Go.Proofs.YtkdebhgccpfkiaaGreatDoor.gw
def E4 (w : World) (S : Nat → Prop) (v : Value) (t : List UInt8) : Prop := (∀ k,S k → k < w.heap.size) ∧ ∀ W : World,(∀ k,S k → W.heap[k]? = w.heap[k]?) → Calls Tryz.prog 87 #[v] W fun e w' => e = .returned (.string (Bs t)) ∧ Below W.heap.size W w'
theorem E4.is {w : World} {S : Nat → Prop} {v : Value} {t : List UInt8} (h : E4 w S v t) : fi w v t := fun W hW => h.2 W fun k hk => hW.block k (h.1 k hk)
theorem E4.move {w w' : World} {S : Nat → Prop} {v : Value} {t : List UInt8} (h : E4 w S v t) (hs : w.heap.size ≤ w'.heap.size) (hk : ∀ k,S k → w'.heap[k]? = w.heap[k]?) : E4 w' S v t := ⟨fun k hS => by have := h.1 k hS; omega,fun W hW => h.2 W fun k hS => (hW k hS).trans (hk k hS)⟩
theorem fo {v : Value} {t : List UInt8} (h : ∀ W,fi W v t) (w : World) : E4 w (fun _ => False) v t := ⟨fun _ h => h.elim,fun W _ => h W W (Below.refl _ _)⟩
def Sf (w : World) (e b : Nat) (r : Option Nat) (k : Nat) : Prop := k < w.heap.size ∧ ¬ EX e b r k
def G1 (w : World) (S : Nat → Prop) (v : Value) (t : List UInt8) (d K : Nat) : Prop := ∀ W : World,(∀ k,S k → W.heap[k]? = w.heap[k]?) → ∀ (B e b : Nat) (r : Option Nat) (pos m : Nat) (ord : Value) (dep : Int),(∀ k,S k → Sf W e b r k) → EN W B e b r pos m ord → iP ord → Lib.Utf8Tabs 3 4 W → 5 ≤ B → 0 ≤ dep → dep + (d : Int) ≤ 64 → pos + K + 100000 ≤ 200000000000 → m + K + 100000 ≤ 200000000000 →
 Calls Tryz.prog 47 #[.pointer (some ⟨e,0,none⟩),.agg #[v,.string (Bs t)],.int .i64 dep] W fun e' w' => e' = .returned (.tuple #[]) ∧ ER W B e b r pos m ord K w'
structure EV (w : World) (S : Nat → Prop) (v : Value) (t : List UInt8) (d K : Nat) : Prop where
 ty : E4 w S v t
 en : G1 w S v t d K
theorem EV.move {w w' : World} {S : Nat → Prop} {v : Value} {t : List UInt8} {d K : Nat} (h : EV w S v t d K) (hs : w.heap.size ≤ w'.heap.size) (hk : ∀ k,S k → w'.heap[k]? = w.heap[k]?) : EV w' S v t d K:=
 ⟨h.ty.move hs hk,fun W hW => h.en W fun k hS => (hW k hS).trans (hk k hS)⟩
theorem EV.up {w w' : World} {S : Nat → Prop} {v : Value} {t : List UInt8} {d K : Nat} (h : EV w S v t d K) (hb : Below w.heap.size w w') : EV w' S v t d K := h.move hb.size fun k hS => hb.block k (h.ty.1 k hS)
theorem ER.more {w w' : World} {B e b : Nat} {r : Option Nat} {pos m K K2 : Nat} {ord : Value} (h : ER w B e b r pos m ord K w') (hK : K ≤ K2) : ER w B e b r pos m ord K2 w' := by
 obtain ⟨r', p,h1,h2,h3,h4⟩ := h
 exact ⟨r', p,h1,h2,h3,Nat.le_trans h4 hK⟩
theorem G1.more {w : World} {S : Nat → Prop} {v : Value} {t : List UInt8} {d d2 K K2 : Nat} (h : G1 w S v t d K) (hd : d ≤ d2) (hK : K ≤ K2) : G1 w S v t d2 K2 := fun W hW B e b r pos m ord dep h1 h2 h3 h4 h5 h6 h7 h8 h9=>
 (h W hW B e b r pos m ord dep h1 h2 h3 h4 h5 h6 (by omega) (by omega) (by omega)).mono fun e' w' ⟨ha,hb⟩ => ⟨ha,hb.more hK⟩
theorem EV.more {w : World} {S : Nat → Prop} {v : Value} {t : List UInt8} {d d2 K K2 : Nat} (h : EV w S v t d K) (hd : d ≤ d2) (hK : K ≤ K2) : EV w S v t d2 K2 := ⟨h.ty,h.en.more hd hK⟩
theorem St.kept {w W : World} {B e b : Nat} {r0 r : Option Nat} {ord V S : Value} {pos m p0 m0 : Nat} (h0 : EN w B e b r0 p0 m0 ord) (h : St w B e b r0 ord V S W r pos m) {k : Nat} (hk : Sf w e b r0 k) : W.heap[k]? = w.heap[k]?:=
 h.fr.keep k hk.1 hk.2
theorem St.sf {w W : World} {B e b : Nat} {r0 r : Option Nat} {ord V S : Value} {pos m : Nat} (h : St w B e b r0 ord V S W r pos m) {k : Nat} (hk : Sf w e b r0 k) : Sf W e b r k := by
 refine ⟨Nat.lt_of_lt_of_le hk.1 h.fr.size,fun hx => ?_⟩
 rcases hx with hx | hx | hx
 · exact hk.2 (.inl hx)
 · exact hk.2 (.inr (.inl hx))
 · rcases h.rn with e | ⟨g,e,hg⟩
   · rw [e] at hx; exact hk.2 (.inr (.inr hx))
   · rw [e] at hx
     have := Option.some.inj hx
     have := hk.1
     omega
theorem EN.sf {w : World} {B e b : Nat} {r : Option Nat} {pos m : Nat} {ord : Value} (h : EN w B e b r pos m ord) {k : Nat} (hk : k < B) : Sf w e b r k:=
 ⟨Nat.lt_of_lt_of_le hk h.hw,fun hx => by have := EX.ge h k hx; omega⟩
theorem ae9 (x : Nat) (h : x < 256) (w : World) : EV w (fun _ => False) (.iface 5 (.int .u8 (x : Int))) [121] 0 15:=
 ⟨fo (fun W => WS (x : Int) W) w,fun W _ B e b r pos m ord dep _ hE ho hT hB cm dt hp hm => aas x h dep cm (by omega) hE (by omega) (by omega)⟩
theorem afk (x : Bool) (w : World) : EV w (fun _ => False) (.iface 4 (.bool x)) [98] 0 30:=
 ⟨fo (fun W => acq x W) w,fun W _ B e b r pos m ord dep _ hE ho hT hB cm dt hp hm => afx x dep cm (by omega) hE ho (by omega) (by omega)⟩
theorem aff (x : Int) (h0 : -32768 ≤ x) (h1 : x < 32768) (w : World) : EV w (fun _ => False) (.iface 71 (.int .i16 x)) [110] 0 15:=
 ⟨fo (fun W => W8 x W) w,fun W _ B e b r pos m ord dep _ hE ho hT hB cm dt hp hm => aft x h0 h1 dep cm (by omega) hE ho (by omega) (by omega)⟩
theorem afd (x : Nat) (h : x < 65536) (w : World) : EV w (fun _ => False) (.iface 120 (.int .u16 (x : Int))) [113] 0 15:=
 ⟨fo (fun W => WY (x : Int) W) w,fun W _ B e b r pos m ord dep _ hE ho hT hB cm dt hp hm => afr x h dep cm (by omega) hE ho (by omega) (by omega)⟩
theorem afg (x : Int) (h0 : -2147483648 ≤ x) (h1 : x < 2147483648) (w : World) : EV w (fun _ => False) (.iface 21 (.int .i32 x)) [105] 0 15:=
 ⟨fo (fun W => Xa x W) w,fun W _ B e b r pos m ord dep _ hE ho hT hB cm dt hp hm => afu x h0 h1 dep cm (by omega) hE ho (by omega) (by omega)⟩
theorem afa (x : Nat) (h : x < 4294967296) (w : World) : EV w (fun _ => False) (.iface 117 (.int .u32 (x : Int))) [117] 0 15:=
 ⟨fo (fun W => WW (x : Int) W) w,fun W _ B e b r pos m ord dep _ hE ho hT hB cm dt hp hm => DH x h dep cm (by omega) hE ho (by omega) (by omega)⟩
theorem ae' (x : Int) (h0 : -9223372036854775808 ≤ x) (h1 : x < 9223372036854775808) (w : World) : EV w (fun _ => False) (.iface 2 (.int .i64 x)) [120] 0 15:=
 ⟨fo (fun W => WU x W) w,fun W _ B e b r pos m ord dep _ hE ho hT hB cm dt hp hm => afo x h0 h1 dep cm (by omega) hE ho (by omega) (by omega)⟩
theorem afb (x : Nat) (h : x < 18446744073709551616) (w : World) : EV w (fun _ => False) (.iface 22 (.int .u64 (x : Int))) [116] 0 15:=
 ⟨fo (fun W => WX (x : Int) W) w,fun W _ B e b r pos m ord dep _ hE ho hT hB cm dt hp hm => afp x h dep cm (by omega) hE ho (by omega) (by omega)⟩
theorem afj (x : Nat) (w : World) : EV w (fun _ => False) (.iface 121 (.float .f64 x)) [100] 0 15:=
 ⟨fo (fun W => Xc x W) w,fun W _ B e b r pos m ord dep _ hE ho hT hB cm dt hp hm => afw x dep cm (by omega) hE ho (by omega) (by omega)⟩
theorem afh (x : Nat) (h : x < 4294967296) (w : World) : EV w (fun _ => False) (.iface 148 (.int .u32 (x : Int))) [104] 0 15:=
 ⟨fo (fun W => Xb (x : Int) W) w,fun W _ B e b r pos m ord dep _ hE ho hT hB cm dt hp hm => afv x h dep cm (by omega) hE ho (by omega) (by omega)⟩
theorem afc (x : ByteArray) (hx : x.size ≤ 65536) (hV : Lib.validD x.data.toList = true) (hz : Lib.indexByte x.data.toList 0 = -1) (w : World) : EV w (fun _ => False) (.iface 9 (.string x)) [115] 0 (x.size + 40):=
 ⟨fo (fun W => MG x W) w,fun W _ B e b r pos m ord dep _ hE ho hT hB cm dt hp hm => afq x hx hV hz dep cm (by omega) hE ho hT hB (by omega) (by omega)⟩
theorem afe (x : ByteArray) (hx : x.size ≤ 65536) (hV : Lib.validD x.data.toList = true) (hz : Lib.indexByte x.data.toList 0 = -1) (kp : Nat) (Tq : av.f kp x = some true) (w : World) : EV w (fun _ => False) (.iface 123 (.string x)) [111] 0 (x.size + 40):=
 ⟨fo (fun W => WZ x W) w,fun W _ B e b r pos m ord dep _ hE ho hT hB cm dt hp hm => afs x hx hV hz kp Tq dep cm (by omega) hE ho hT hB (by omega) (by omega)⟩
theorem afi (x : ByteArray) (hx : x.size ≤ 65536) (w : World) : EV w (fun _ => False) (.iface 131 (.agg #[.string x])) [103] 0 (x.size + 40):=
 ⟨fo (fun W => MH x W) w,fun W _ B e b r pos m ord dep _ hE ho hT hB cm dt hp hm => aav x hx dep cm (by omega) hE (by omega) (by omega)⟩
end Go.Proofs.YtkdebhgccpfkiaaGreatDoor.au
namespace Go.Proofs.YtkdebhgccpfkiaaGreatDoor.au
open Go.RowKit Go.Proofs.aa.az Go.Proofs.aa.aM Go.Proofs.aa.aU
attribute [local go_sem] ba bh
set_option linter.unusedVariables false
set_option linter.unusedSimpArgs false
attribute [local go_sem] jB kK iy fW fV fw fU fT
open Go.Proofs.YtkdebhgccpfkiaaGreatDoor.fD Go.Proofs.YtkdebhgccpfkiaaGreatDoor.fO Go.Proofs.YtkdebhgccpfkiaaGreatDoor.gw
theorem E4.at {w W : World} {S : Nat → Prop} {v : Value} {t : List UInt8} (h : E4 w S v t) (hW : ∀ k,S k → W.heap[k]? = w.heap[k]?) : fi W v t := fun W' hb => h.2 W' fun k hk => by
 have h1 := hW k hk
 have h2 : k < W.heap.size := by
  have h3 := h.1 k hk
  rw [Array.getElem?_eq_getElem h3] at h1
  exact (Array.getElem?_eq_some_iff.1 h1).1
 exact (hb.block k h2).trans h1
theorem aam {w : World} {S : Nat → Prop} {dT : TypeId} {u : Value} {t : List UInt8} {d K : Nat} (h : EV w S (.iface dT u) t d K) (x : ByteArray) (hx : x.size ≤ 255) : EV w S (.iface 133 (.agg #[.string x,.iface dT u])) [118] (d + 1) (K + 400) := by
 refine ⟨⟨h.ty.1,fun W _ => WV x dT u W W (Below.refl _ _)⟩,?_⟩
 intro W hW B e b r pos m ord dep BD hE ho hT hB cm dt hp hm
 have kQ : decide (64 < dep) = false := by simp; omega
 have hbs : Bs [118] = ⟨#[118]⟩ := rfl
 rw [hbs]
 have H0 := U.mk hE
 have N0 := U.mk (St.start (.iface 133 (.agg #[.string x,.iface dT u])) (.string ⟨#[118]⟩) hE)
 have y0 := N0.out.x0
 have y1 := N0.out.x1
 have HK := U.mk (And.intro h (And.intro hW BD))
 have HO := U.mk (And.intro ho (And.intro hT hB))
 have h7 := dZ (x := pos) (a := 1) (by omega)
 obtain ⟨q,hq⟩ : ∃ q,pd pos 1 = q := ⟨_,rfl⟩
 rw [hq] at h7
 have HQ := U.mk hq
 obtain ⟨gj,Ex⟩ : ∃ gj,dep + 1 = gj := ⟨_,rfl⟩
 have Y' : IntKind.i64.wrap (dep + 1) = gj := by rw [IntKind.wrap_i64]; omega
 have HD : U (0 ≤ gj ∧ gj + (d : Int) ≤ 64) := ⟨by omega,by omega⟩
 have Jq : gj ≤ 64 := by omega
 clear hE cm dt hq ho hT hB h hW BD Ex
 go_enter Tryz.func47,Tryz.ntmps47
 go_wp2_with (first
  | (go_at_call 61; have h9 := N3; refine (bC _ rfl _ _).mono ?_; rintro e1 w2 ⟨rfl,hb⟩; have N3 := U.mk (N3.out.up hb); have v0 := N3.out.x0; have v1 := N3.out.x1; clear hb h9)
  | (go_at_call 61; refine (bC _ rfl _ _).mono ?_; rintro e1 w2 ⟨rfl,hb⟩; have N1 := U.mk (N0.out.up hb); have z0 := N1.out.x0; have z1 := N1.out.x1; clear hb)
  | (go_at_call 60; refine (afF _).mono ?_; rintro e1 w3 ⟨rfl,rfl⟩)
  | (go_at_call 59; refine (b7 N1.out.en 1 (by omega) (by omega) (by omega)).mono ?_; rintro e1 w4 ⟨rfl,r4,bJ,bX,bY⟩; rw [HQ.out] at bJ; have N2 := U.mk (N1.out.step bJ bX bY (N1.out.iX H0.out)); have u0 := N2.out.x0; have u1 := N2.out.x1; clear bJ bX bY)
  | (go_at_call 62; refine (ad9 _ rfl _).mono ?_; rintro e1 w5 ⟨rfl,hb⟩; have N3 := U.mk (N2.out.up hb); have v0 := N3.out.x0; have v1 := N3.out.x1; clear hb)
  | (go_at_call 79; refine (IZ 133 _ _ _).mono ?_; rintro e1 w6 ⟨rfl,hb⟩; have N4 := U.mk (N3.out.up hb); clear hb)
  | fail)
 have jz := S2.start N4.out #[.string x,.iface dT u] 133
 have b0 := jz.c 0 _ rfl
 have b1 := jz.c 1 _ rfl
 have N5 := U.mk jz
 clear jz
 refine (jE 131 (.agg #[.string x]) [103] _ (MH x _)).mono ?_
 rintro e2 w7 ⟨rfl,hb⟩
 have N6 := U.mk (N5.out.up hb)
 have ZI : Bs [103] = ⟨#[103]⟩ := rfl
 rw [ZI]
 clear hb ZI
 go_wp2_with fail
 refine (aav x (by omega) gj HD.out.1 Jq N6.out.st.en (by omega) (by omega)).mono ?_
 rintro e4 w9 ⟨rfl,he⟩
 obtain ⟨r9,p,Gq,hst⟩ := N6.out.er H0.out he
 have a0 := hst.c 0 _ rfl
 have a1 := hst.c 1 _ rfl
 have N8 := U.mk hst
 clear he hst
 go_wp2_with fail
 refine (jE dT u t _ (HK.out.1.ty.at (fun k hk => (N8.out.st.kept H0.out (HK.out.2.2 k hk)).trans (HK.out.2.1 k hk)))).mono ?_
 rintro e5 ki ⟨rfl,hb⟩
 have N9 := U.mk (N8.out.up hb)
 clear hb
 go_wp2_with fail
 refine (HK.out.1.en _ (fun k hk => (N9.out.st.kept H0.out (HK.out.2.2 k hk)).trans (HK.out.2.1 k hk)) B e b _ _ _ ord gj (fun k hk => N9.out.st.sf (HK.out.2.2 k hk)) N9.out.st.en HO.out.1 (N9.out.st.tabs H0.out HO.out.2.1 HO.out.2.2) HO.out.2.2 HD.out.1 HD.out.2 (by omega) (by omega)).mono ?_
 rintro e6 vM ⟨rfl,he⟩
 obtain ⟨Ge,p2,Bv,hst⟩ := N9.out.er H0.out he
 have JY := U.mk hst.st
 clear he hst
 go_wp2
 go_end0
 exact ⟨rfl,JY.out.out ⟨q + p + p2,by omega,by omega,by omega⟩⟩
end Go.Proofs.YtkdebhgccpfkiaaGreatDoor.au
namespace Go.Proofs.YtkdebhgccpfkiaaGreatDoor.au
open Go.RowKit Go.Proofs.aa.az Go.Proofs.aa.aM Go.Proofs.aa.aU
attribute [local go_sem] ba bh
set_option linter.unusedVariables false
set_option linter.unusedSimpArgs false
open Go.Proofs.YtkdebhgccpfkiaaGreatDoor.fD Go.Proofs.YtkdebhgccpfkiaaGreatDoor.fO Go.Proofs.YtkdebhgccpfkiaaGreatDoor.gw
theorem ab1 (r : List UInt8) : ay.f 20 (Bs (40 :: r)) = some 8 := by
 have hk : ∀ k,9 ≤ k → aq.f k (Bs (40 :: r)) = some 18 := fun k hk => BN (g := fun k => aq.f k (Bs (40 :: r))) (fun k => aq.mono _ k) hk (ij 40 r 18 (by kernel_rfl))
 have ht : (Bs (40 :: r)).toList = 40 :: r := by rw [ch,fH]
 simp only [ay.f,ht]
 rw [if_neg (by simp),if_neg (by simp),if_neg (by simp)]
 rw [if_neg (by simp),hk 19 (by omega)]
 simp [ay.j0,ay.j1,ay.j2]
theorem T0 (r : List UInt8) (w : World) : Calls Tryz.prog 60 #[.string (Bs (40 :: r))] w fun e w' => e = .returned (.int .i64 8) ∧ Below w.heap.size w w' := by
 refine (ay.calls 20 _ 8 w (ab1 r)).mono ?_
 rintro e w' ⟨rfl,nd,rfl⟩
 exact ⟨rfl,ai (Below.refl _ _) nd⟩
theorem acx (v : Value) (hv : v.oneCell' = true) (r : List UInt8) (w : World) : Calls Tryz.prog 62 #[.agg #[v,.string (Bs (40 :: r))]] w fun e w' => e = .returned (.int .i64 18) ∧ Below w.heap.size w w' := by
 go_enter Tryz.func62,Tryz.ntmps62
 go_wp2_with (go_at_call 50; refine (aq.calls 9 _ 18 _ (ij 40 r 18 (by kernel_rfl))).mono ?_; rintro e w2 ⟨rfl,nd,rfl⟩)
 go_ret
 exact ⟨rfl,ai (ab (Below.refl _ _) _) nd⟩
theorem ab0 (r : List UInt8) : ay.f 20 (Bs (91 :: r)) = some 4 := by
 have hk : ∀ k,9 ≤ k → aq.f k (Bs (91 :: r)) = some 16 := fun k hk => BN (g := fun k => aq.f k (Bs (91 :: r))) (fun k => aq.mono _ k) hk (ij 91 r 16 (by kernel_rfl))
 have ht : (Bs (91 :: r)).toList = 91 :: r := by rw [ch,fH]
 simp only [ay.f,ht]
 rw [if_neg (by simp),if_neg (by simp),if_neg (by simp)]
 split
 · rfl
 · rw [hk 19 (by omega)]
   simp [ay.j0,ay.j1,ay.j2]
theorem TZ (r : List UInt8) (w : World) : Calls Tryz.prog 60 #[.string (Bs (91 :: r))] w fun e w' => e = .returned (.int .i64 4) ∧ Below w.heap.size w w' := by
 refine (ay.calls 20 _ 4 w (ab0 r)).mono ?_
 rintro e w' ⟨rfl,nd,rfl⟩
 exact ⟨rfl,ai (Below.refl _ _) nd⟩
theorem acw (v : Value) (hv : v.oneCell' = true) (r : List UInt8) (w : World) : Calls Tryz.prog 62 #[.agg #[v,.string (Bs (91 :: r))]] w fun e w' => e = .returned (.int .i64 16) ∧ Below w.heap.size w w' := by
 go_enter Tryz.func62,Tryz.ntmps62
 go_wp2_with (go_at_call 50; refine (aq.calls 9 _ 16 _ (ij 91 r 16 (by kernel_rfl))).mono ?_; rintro e w2 ⟨rfl,nd,rfl⟩)
 go_ret
 exact ⟨rfl,ai (ab (Below.refl _ _) _) nd⟩
theorem WH (r : List UInt8) : ay.f 20 (Bs (123 :: r)) = some 4 := by
 have hk : ∀ k,9 ≤ k → aq.f k (Bs (123 :: r)) = some 14 := fun k hk => BN (g := fun k => aq.f k (Bs (123 :: r))) (fun k => aq.mono _ k) hk (ij 123 r 14 (by kernel_rfl))
 have ht : (Bs (123 :: r)).toList = 123 :: r := by rw [ch,fH]
 simp only [ay.f,ht]
 rw [if_neg (by simp),if_neg (by simp),if_neg (by simp)]
 rw [if_neg (by simp),hk 19 (by omega)]
 simp [ay.j0,ay.j1,ay.j2]
theorem Pr (r : List UInt8) (w : World) : Calls Tryz.prog 60 #[.string (Bs (123 :: r))] w fun e w' => e = .returned (.int .i64 4) ∧ Below w.heap.size w w' := by
 refine (ay.calls 20 _ 4 w (WH r)).mono ?_
 rintro e w' ⟨rfl,nd,rfl⟩
 exact ⟨rfl,ai (Below.refl _ _) nd⟩
theorem Xp (v : Value) (hv : v.oneCell' = true) (r : List UInt8) (w : World) : Calls Tryz.prog 62 #[.agg #[v,.string (Bs (123 :: r))]] w fun e w' => e = .returned (.int .i64 14) ∧ Below w.heap.size w w' := by
 go_enter Tryz.func62,Tryz.ntmps62
 go_wp2_with (go_at_call 50; refine (aq.calls 9 _ 14 _ (ij 123 r 14 (by kernel_rfl))).mono ?_; rintro e w2 ⟨rfl,nd,rfl⟩)
 go_ret
 exact ⟨rfl,ai (ab (Below.refl _ _) _) nd⟩
end Go.Proofs.YtkdebhgccpfkiaaGreatDoor.au
