-- A trial text of this session.
import Derived.Test.YthcafnmagidpiaaDoorMFnVtTokensLd
namespace Go.Proofs.YthcafnmagidpiaaDoor.MFnVtTokens
open Go.RowKit Go.Proofs.YthcafnmagidpiaaDoorW.PrintWords Go.Proofs.YthcafnmagidpiaaDoorW.PrintLast Go.Proofs.YthcafnmagidpiaaDoorW.PrintMore
attribute [local go_sem] max2_int min2_int max_two min_two max_three min_three max_four min_four
set_option linter.unusedVariables false
set_option linter.unusedSimpArgs false


theorem typL_pos {c : UInt8} {r : List UInt8} {n : Nat} (hb : blankb c = false) (h : typL (c :: r) = some n) : 1 ≤ n := by
  unfold typL at h
  split at h
  · cases h
  · rw [if_neg (by rw [hb]; simp)] at h
    obtain ⟨m, _, rfl⟩ := Option.map_eq_some_iff.1 h
    omega
theorem ty_calls (K : Nat) (w0 w : World) (g : Nat) (a : ByteArray) (pos wd : Nat) (ts : List S48) (o : Option (Int × Nat) × ByteArray) (c : UInt8) (t : List UInt8) (hx : Lx w0 w g a pos pos wd ts) (hl : a.data.toList.drop pos = c :: t) (hb : blankb c = false) (h : typF K (a.data.toList.drop pos) = some o) (hq : a.size ≤ 100000) (hn : ts.length ≤ 100000) (hT : Lib.Utf8Tabs 0 1 w0) :
    Calls Tryd.prog 38 #[.pointer (some ⟨g, 0, none⟩)] w (TokPost w0 g a pos ts o) := by
  have hp : pos ≤ a.size := by have := sz_of hl; omega
  unfold typF at h
  obtain ⟨n, hn1, h⟩ := Option.bind_eq_some_iff.1 h
  have hn2 : 1 ≤ n := by rw [hl] at hn1; exact typL_pos hb hn1
  by_cases hat : hd V64 (a.data.toList.drop pos) = true
  · rw [if_pos hat] at h
    obtain ⟨⟨r1, r2⟩, hps, h⟩ := Option.bind_eq_some_iff.1 h
    rw [← ext_take1 a pos n hn2] at hps
    refine tya_calls K w0 w g a pos wd ts n r1 r2 o ?_ hx hp hat hn2 hn1 hps hq hn hT
    by_cases h2 : r2.isSome = true
    · rw [if_pos h2] at h ⊢; exact Option.some.inj h
    · rw [if_neg h2] at h ⊢; exact Option.some.inj h
  · have hat' : hd V64 (a.data.toList.drop pos) = false := by simpa using hat
    rw [if_neg hat] at h
    obtain ⟨⟨r1, r2⟩, hps, h⟩ := Option.bind_eq_some_iff.1 h
    rw [← ext_take a pos n] at hps
    refine tyw_calls K w0 w g a pos wd ts n r1 r2 o ?_ hx hp hat' hn2 hn1 hps hq hn hT
    by_cases h2 : r2 = true
    · rw [if_pos h2] at h ⊢; exact Option.some.inj h
    · rw [if_neg h2] at h ⊢; exact Option.some.inj h
/-! ### numbers -/
theorem aD10 : Asc D10 := asc_of (by decide)
theorem aD8 : Asc D8 := asc_of (by decide)
theorem aD16 : Asc D16 := asc_of (by decide)
theorem aPM : Asc PM := asc_of (by decide)
theorem aZR : Asc ZR := asc_of (by decide)
theorem aXX : Asc XX := asc_of (by decide)
theorem aDOT : Asc DOT := asc_of (by decide)
theorem aEE : Asc EE := asc_of (by decide)
def expT (l : List UInt8) : Nat := if hd EE l = true then 1 + opt PM (l.drop 1) + span D10 (l.drop (1 + opt PM (l.drop 1))) else 0
def dotT (v : ByteArray) (l : List UInt8) : Nat := if hd DOT l = true then 1 + span v (l.drop 1) + expT (l.drop (1 + span v (l.drop 1))) else expT l
def numT (v : ByteArray) (l : List UInt8) : Nat := span v l + dotT v (l.drop (span v l))
/-- How many bytes the lexer takes for a number. -/
def numL (l : List UInt8) : Nat :=
  if hd ZR (l.drop (opt PM l)) = true then
    (if hd XX (l.drop (opt PM l + 1)) = true then opt PM l + 2 + numT D16 (l.drop (opt PM l + 2)) else opt PM l + 1 + numT D8 (l.drop (opt PM l + 1)))
  else opt PM l + numT D10 (l.drop (opt PM l))
def letb (c : UInt8) : Bool := decide ((97 ≤ c.toNat ∧ c.toNat ≤ 122) ∨ (65 ≤ c.toNat ∧ c.toNat ≤ 90))
theorem le_fin : ∀ n : Fin 128, dbus_zzLetter.f 3 (n.val : Int) = some (decide ((97 ≤ n.val ∧ n.val ≤ 122) ∨ (65 ≤ n.val ∧ n.val ≤ 90))) := by decide +kernel
theorem le_at {c : UInt8} (h : c.toNat < 128) : dbus_zzLetter.f 3 (c.toNat : Int) = some (letb c) := le_fin ⟨c.toNat, h⟩
theorem le_end : dbus_zzLetter.f 3 (-1) = some false := by decide +kernel
def badN : ByteArray := ⟨#[98, 97, 100, 32, 110, 117, 109, 98, 101, 114, 32, 115, 121, 110, 116, 97, 120, 58, 32, 37, 113]⟩
def numE (l : List UInt8) (n : Nat) : Option (Option (Int × Nat) × ByteArray) := match l with
  | [] => some (some (2, n), ⟨#[]⟩)
  | c :: _ => if 128 ≤ c.toNat then none else if letb c = true then some (none, badN) else some (some (2, n), ⟨#[]⟩)
def numF (l : List UInt8) : Option (Option (Int × Nat) × ByteArray) := numE (l.drop (numL l)) (numL l)
theorem num_end {l : List UInt8} {r : Int} {k n : Nat} {o : Option (Int × Nat) × ByteArray} (h : Nx l r k) (hf : numE l n = some o) : ∃ b, dbus_zzLetter.f 3 r = some b ∧ (if b = true then ((none, badN) : Option (Int × Nat) × ByteArray) else (some (2, n), ⟨#[]⟩)) = o := by
  rcases h with ⟨rfl, rfl, rfl⟩ | ⟨c, t, rfl, hc, rfl, rfl⟩ | ⟨c, t, rfl, hc, hr, _⟩
  · exact ⟨false, le_end, by rw [if_neg (by simp)]; exact Option.some.inj hf⟩
  · refine ⟨letb c, le_at hc, ?_⟩
    unfold numE at hf
    simp only at hf
    rw [if_neg (by omega)] at hf
    by_cases hb : letb c = true
    · rw [if_pos hb] at hf ⊢; exact Option.some.inj hf
    · rw [if_neg hb] at hf ⊢; exact Option.some.inj hf
  · unfold numE at hf
    simp only at hf
    rw [if_pos hc] at hf
    cases hf
theorem drop2 (a : ByteArray) (p q : Nat) : (a.data.toList.drop p).drop q = a.data.toList.drop (p + q) := List.drop_drop
set_option maxHeartbeats 8000000 in
set_option maxRecDepth 100000 in
theorem num_calls (w0 w : World) (g : Nat) (a : ByteArray) (pos wd : Nat) (ts : List S48) (o : Option (Int × Nat) × ByteArray) (hx : Lx w0 w g a pos pos wd ts) (hp : pos ≤ a.size) (h : numF (a.data.toList.drop pos) = some o) (hq : a.size ≤ 100000) (hn : ts.length ≤ 100000) (hT : Lib.Utf8Tabs 0 1 w0) :
    Calls Tryd.prog 42 #[.pointer (some ⟨g, 0, none⟩)] w (TokPost w0 g a pos ts o) := by
  have HN := Aside0.mk (fun W p k (h : Lx w0 W g a pos p k ts) (hp : p ≤ a.size) => next_calls w0 W g a pos p k ts h hp hq hT)
  have HPK := Aside0.mk (fun W p k (h : Lx w0 W g a pos p k ts) (hp : p ≤ a.size) => peek_calls w0 W g a pos p k ts h hp hq hT)
  have HBK := Aside0.mk (fun W p k (h : Lx w0 W g a pos p k ts) (hp : k ≤ p) (hq : p ≤ 100000) => back_calls w0 W g a pos p k ts h hp hq)
  have HAC := Aside0.mk (fun W p k v (hv : Asc v) (h : Lx w0 W g a pos p k ts) (hp : p ≤ a.size) => acc_calls w0 W g a pos p k ts v hv h hp hq hT)
  have HE := Aside0.mk (fun W f v p k (h : Lx w0 W g a pos p k ts) => errf_calls w0 W g a pos p k ts f v h (by omega))
  have HM := Aside0.mk (fun W p k (h : Lx w0 W g a pos p k ts) (h1 : pos ≤ p) (h2 : p ≤ a.size) => emit_calls w0 W g a pos p k ts 2 h h1 h2 hq (by omega))
  have HF := Aside0.mk h
  have HX := Aside0.mk hx
  obtain ⟨NL, hNL⟩ : ∃ NL, numL (a.data.toList.drop pos) = NL := ⟨_, rfl⟩
  have HNL := Aside0.mk hNL
  obtain ⟨p1, hp1⟩ : ∃ p1, p1 = pos + opt PM (a.data.toList.drop pos) := ⟨_, rfl⟩
  have hp1s : p1 ≤ a.size := by rw [hp1]; exact opt_sz hp
  have hp1g : pos ≤ p1 := by omega
  have HP1 := Aside0.mk hp1
  clear hx hT hn h hNL hp1
  go_enter Tryd.func42, Tryd.ntmps42
  go_upto_if 8 with (first | (go_at_call 48; refine (HAC.out _ _ _ PM aPM HX.out hp).mono ?_; rintro e wq ⟨kq2, rfl, hxq⟩; (rw [← HP1.out] at hxq); have HX1 := Aside0.mk hxq; clear hxq) | (go_at_call 48; refine (HAC.out _ _ _ ZR aZR HX1.out hp1s).mono ?_; rintro e wq ⟨kq2, rfl, hxq⟩; have HX2 := Aside0.mk hxq; clear hxq))
  go_cut [3] (fun v3 wc => ∃ (v : ByteArray) (p k : Nat), v3 = .string v ∧ pos ≤ p ∧ p ≤ a.size ∧ Aside0 (Asc v ∧ Lx w0 wc g a pos p k ts ∧ NL = p - pos + numT v (a.data.toList.drop p)))
  case first =>
    have hnl := HNL.out
    unfold numL at hnl
    have hop : opt PM (a.data.toList.drop pos) = p1 - pos := by have := HP1.out; omega
    rw [hop, drop2, drop2, drop2, show pos + (p1 - pos) = p1 by omega, show pos + (p1 - pos + 1) = p1 + 1 by omega, show pos + (p1 - pos + 2) = p1 + 2 by omega] at hnl
    have HH := Aside0.mk hnl
    clear hnl hop
    by_cases hz : hd ZR (a.data.toList.drop p1) = true
    · have h1 := hd_sz hz
      have ho : opt ZR (a.data.toList.drop p1) = 1 := by unfold opt; rw [if_pos hz]
      rw [ho] at HX2
      have hnl := HH.out
      rw [if_pos hz] at hnl
      have HH2 := Aside0.mk hnl
      obtain ⟨p2, hp2⟩ : ∃ p2, p1 + 1 = p2 := ⟨_, rfl⟩
      rw [hp2] at HX2 HH2
      have hp2s : p2 ≤ a.size := by omega
      rw [hz]
      clear hnl ho HH hz h1
      go_upto_if 10 with (go_at_call 48; refine (HAC.out _ _ _ XX aXX HX2.out hp2s).mono ?_; rintro e wq ⟨kq2, rfl, hxq⟩; have HX3 := Aside0.mk hxq; clear hxq)
      by_cases hxx : hd XX (a.data.toList.drop p2) = true
      · have h1 := hd_sz hxx
        have ho : opt XX (a.data.toList.drop p2) = 1 := by unfold opt; rw [if_pos hxx]
        rw [ho] at HX3
        have hnl := HH2.out
        rw [if_pos hxx] at hnl
        have HH3 := Aside0.mk hnl
        rw [hxx]
        have hp12 := hp2
        clear hnl ho HH2 hxx
        go_wp2
        go_meet
        case rel =>
          refine ⟨D16, p2 + 1, _, rfl, by omega, h1, ⟨aD16, HX3.out, ?_⟩⟩
          rw [← HH3.out, show p1 + 2 = p2 + 1 by omega]
          omega
      · have hf : hd XX (a.data.toList.drop p2) = false := by simpa using hxx
        have ho : opt XX (a.data.toList.drop p2) = 0 := by unfold opt; rw [if_neg hxx]
        rw [ho, Nat.add_zero] at HX3
        have hnl := HH2.out
        rw [if_neg hxx] at hnl
        have HH3 := Aside0.mk hnl
        rw [hf]
        have hp12 := hp2
        clear hnl ho HH2 hxx hf
        go_wp2
        go_meet
        case rel =>
          refine ⟨D8, p2, _, rfl, by omega, hp2s, ⟨aD8, HX3.out, ?_⟩⟩
          rw [← HH3.out]
          omega
    · have hf : hd ZR (a.data.toList.drop p1) = false := by simpa using hz
      have ho : opt ZR (a.data.toList.drop p1) = 0 := by unfold opt; rw [if_neg hz]
      rw [ho, Nat.add_zero] at HX2
      have hnl := HH.out
      rw [if_neg hz] at hnl
      have HH3 := Aside0.mk hnl
      rw [hf]
      clear hnl ho HH hz hf
      go_wp2
      go_meet
      case rel =>
        refine ⟨D10, p1, _, rfl, hp1g, hp1s, ⟨aD10, HX2.out, ?_⟩⟩
        rw [← HH3.out]
  case rest =>
    clear HX HX1 HX2
    obtain ⟨v, p2, k2, rfl, hp2g, hp2s, HQ⟩ := hcut
    go_wp2
    go_loopg [] (a.size - p2) (fun kq w' => ∃ p k : Nat, p2 ≤ p ∧ p ≤ a.size ∧ Aside0 (kq = a.size - p ∧ Lx w0 w' g a pos p k ts ∧ span v (a.data.toList.drop p2) = p - p2 + span v (a.data.toList.drop p)))
    case atStart => exact ⟨p2, _, Nat.le_refl _, by omega, ⟨rfl, HQ.out.2.1, by omega⟩⟩
    case round =>
      obtain ⟨p, k0, hp1, hp2, HI⟩ := hrel
      have hlp : (a.data.toList.drop p).length = a.size - p := by rw [List.length_drop]; rfl
      have HLP := Aside0.mk hlp
      clear hlp
      go_upto_if 14 with (first | (go_at_call 34; refine (HN.out _ _ _ HI.out.2.1 (by omega)).mono ?_; rintro e w3 ⟨r, k, hn, rfl, hx3⟩; have HX3 := Aside0.mk hx3; have hkl := Nat.le_trans hn.le (Nat.le_of_eq HLP.out); have HNX := Aside0.mk hn; clear hn hx3) | (go_at_call 51; refine (has_calls v _ _ HQ.out.1).mono ?_; rintro e w4 ⟨rfl, hb4⟩; have HX4 := Aside0.mk (Lx.below HX3.out hb4); clear hb4))
      have F := hd_nx HQ.out.1 HNX.out
      by_cases hh : hd v (a.data.toList.drop p) = true
      · have e1 : hasb v r = true := F.1.trans hh
        have hk := (F.2 hh).1
        subst hk
        have hsz := hd_sz hh
        have HS := Aside0.mk (span_t hh)
        clear F hh
        rw [e1]
        go_wp2
        go_roundg (a.size - (p + 1))
        case measure => have := HI.out.1; omega
        case rel =>
          refine ⟨p + 1, 1, by omega, by omega, ⟨rfl, HX4.out, ?_⟩⟩
          have h1 := HI.out.2.2
          have h2 := HS.out
          rw [drop2] at h2
          omega
      · have hf : hd v (a.data.toList.drop p) = false := by simpa using hh
        have e1 : hasb v r = false := F.1.trans hf
        have hpe : p = p2 + span v (a.data.toList.drop p2) := by
          have h1 := HI.out.2.2
          rw [span_f hf] at h1
          omega
        have HPE := Aside0.mk hpe
        have hkl2 : p + k ≤ 100000 := by omega
        clear F hh hf hpe
        rw [e1]
        go_upto_if 18 with (first | (go_at_call 36; refine (HBK.out _ _ _ HX4.out (by omega) hkl2).mono ?_; rintro e w5 ⟨rfl, hx5⟩; (rw [Nat.add_sub_cancel] at hx5); have HX5 := Aside0.mk hx5; clear hx5) | (go_at_call 48; refine (HAC.out _ _ _ DOT aDOT HX5.out hp2).mono ?_; rintro e wq ⟨kq2, rfl, hxq⟩; (obtain ⟨bD, hbD⟩ : ∃ b, hd DOT (a.data.toList.drop p) = b := ⟨_, rfl⟩); (rw [hbD]); have HBD := Aside0.mk hbD; clear hbD; have HX6 := Aside0.mk hxq; clear hxq))
        have hq0 : NL = p - pos + dotT v (a.data.toList.drop p) := by
          have h1 := HQ.out.2.2
          unfold numT at h1
          rw [drop2, ← HPE.out] at h1
          have h2 := HPE.out
          omega
        have HQ2 := Aside0.mk hq0
        have hp2p : p2 ≤ p := hp1
        clear hq0
        go_cut [] (fun wc => ∃ (p k : Nat), pos ≤ p ∧ p ≤ a.size ∧ Aside0 (Lx w0 wc g a pos p k ts ∧ NL = p - pos + expT (a.data.toList.drop p)))
        case first =>
          cases bD with
          | true =>
            have hdt : hd DOT (a.data.toList.drop p) = true := HBD.out
            have h1 := hd_sz hdt
            have ho : opt DOT (a.data.toList.drop p) = 1 := by unfold opt; rw [if_pos hdt]
            rw [ho] at HX6
            have hnl := HQ2.out
            unfold dotT at hnl
            rw [if_pos hdt, drop2, drop2] at hnl
            obtain ⟨p4, hp4⟩ : ∃ p4, p + 1 = p4 := ⟨_, rfl⟩
            rw [hp4] at HX6 hnl
            have hp4s : p4 ≤ a.size := by omega
            have hnl2 : NL = p4 + span v (a.data.toList.drop p4) - pos + expT (a.data.toList.drop (p4 + span v (a.data.toList.drop p4))) := by
              rw [show p + (1 + span v (a.data.toList.drop p4)) = p4 + span v (a.data.toList.drop p4) by omega] at hnl
              omega
            have HH4 := Aside0.mk hnl2
            have hpp4 : pos ≤ p4 := by omega
            clear hnl hnl2 ho hdt h1 hp4
            go_wp2
            go_loopg [] (a.size - p4) (fun kq w' => ∃ p k : Nat, p4 ≤ p ∧ p ≤ a.size ∧ Aside0 (kq = a.size - p ∧ Lx w0 w' g a pos p k ts ∧ span v (a.data.toList.drop p4) = p - p4 + span v (a.data.toList.drop p)))
            case atStart => exact ⟨p4, _, Nat.le_refl _, by omega, ⟨rfl, HX6.out, by omega⟩⟩
            case round =>
              obtain ⟨p, k0, hp1, hp2, HI⟩ := hrel
              have hlp : (a.data.toList.drop p).length = a.size - p := by rw [List.length_drop]; rfl
              have HLP := Aside0.mk hlp
              clear hlp
              go_upto_if 22 with (first | (go_at_call 34; refine (HN.out _ _ _ HI.out.2.1 (by omega)).mono ?_; rintro e w3 ⟨r, k, hn, rfl, hx3⟩; have HX3 := Aside0.mk hx3; have hkl := Nat.le_trans hn.le (Nat.le_of_eq HLP.out); have HNX := Aside0.mk hn; clear hn hx3) | (go_at_call 51; refine (has_calls v _ _ HQ.out.1).mono ?_; rintro e w4 ⟨rfl, hb4⟩; have HX4 := Aside0.mk (Lx.below HX3.out hb4); clear hb4))
              have F := hd_nx HQ.out.1 HNX.out
              by_cases hh : hd v (a.data.toList.drop p) = true
              · have e1 : hasb v r = true := F.1.trans hh
                have hk := (F.2 hh).1
                subst hk
                have hsz := hd_sz hh
                have HS := Aside0.mk (span_t hh)
                clear F hh
                rw [e1]
                go_wp2
                go_roundg (a.size - (p + 1))
                case measure => have := HI.out.1; omega
                case rel =>
                  refine ⟨p + 1, 1, by omega, by omega, ⟨rfl, HX4.out, ?_⟩⟩
                  have h1 := HI.out.2.2
                  have h2 := HS.out
                  rw [drop2] at h2
                  omega
              · have hf : hd v (a.data.toList.drop p) = false := by simpa using hh
                have e1 : hasb v r = false := F.1.trans hf
                have hpe : p = p4 + span v (a.data.toList.drop p4) := by
                  have h1 := HI.out.2.2
                  rw [span_f hf] at h1
                  omega
                have HPE := Aside0.mk hpe
                have hkl2 : p + k ≤ 100000 := by omega
                clear F hh hf hpe
                rw [e1]
                go_wp2_with (go_at_call 36; refine (HBK.out _ _ _ HX4.out (by omega) hkl2).mono ?_; rintro e w5 ⟨rfl, hx5⟩; (rw [Nat.add_sub_cancel] at hx5); have HX5 := Aside0.mk hx5; clear hx5)
                go_meet
                case rel =>
                  refine ⟨p, _, by omega, hp2, ⟨HX5.out, ?_⟩⟩
                  have := HH4.out
                  rw [← HPE.out] at this
                  exact this
          | false =>
            have hf : hd DOT (a.data.toList.drop p) = false := HBD.out
            have hdt : ¬ hd DOT (a.data.toList.drop p) = true := by rw [hf]; simp
            have ho : opt DOT (a.data.toList.drop p) = 0 := by unfold opt; rw [if_neg hdt]
            rw [ho, Nat.add_zero] at HX6
            have hnl := HQ2.out
            unfold dotT at hnl
            rw [if_neg hdt] at hnl
            have HH4 := Aside0.mk hnl
            clear hnl ho hdt hf
            go_wp2
            go_meet
            case rel => exact ⟨p, _, by omega, hp2, ⟨HX6.out, HH4.out⟩⟩
        case rest =>
          clear HX3 HX4 HX5 HX6 HPE HQ HQ2 HNX
          obtain ⟨p3, k3, hp3g, hp3s, HQ3⟩ := hcut
          go_upto_if 26 with (go_at_call 48; refine (HAC.out _ _ _ EE aEE HQ3.out.1 hp3s).mono ?_; rintro e wq ⟨kq2, rfl, hxq⟩; (obtain ⟨bE, hbE⟩ : ∃ b, hd EE (a.data.toList.drop p3) = b := ⟨_, rfl⟩); (rw [hbE]); have HBE := Aside0.mk hbE; clear hbE; have HX7 := Aside0.mk hxq; clear hxq)
          go_cut [] (fun wc => ∃ (p k : Nat), pos ≤ p ∧ p ≤ a.size ∧ Aside0 (Lx w0 wc g a pos p k ts ∧ NL = p - pos))
          case first =>
            cases bE with
            | true =>
              have hee : hd EE (a.data.toList.drop p3) = true := HBE.out
              have h1 := hd_sz hee
              have ho : opt EE (a.data.toList.drop p3) = 1 := by unfold opt; rw [if_pos hee]
              rw [ho] at HX7
              have hnl := HQ3.out.2
              unfold expT at hnl
              rw [if_pos hee, drop2, drop2] at hnl
              obtain ⟨p4, hp4⟩ : ∃ p4, p3 + 1 = p4 := ⟨_, rfl⟩
              rw [hp4] at HX7 hnl
              have hp4s : p4 ≤ a.size := by omega
              obtain ⟨p5, hp5⟩ : ∃ p5, p4 + opt PM (a.data.toList.drop p4) = p5 := ⟨_, rfl⟩
              have hp5s : p5 ≤ a.size := by rw [← hp5]; exact opt_sz hp4s
              have hnl2 : NL = p5 + span D10 (a.data.toList.drop p5) - pos := by
                rw [show p3 + (1 + opt PM (a.data.toList.drop p4)) = p5 by omega] at hnl
                omega
              have HH5 := Aside0.mk hnl2
              have HP5 := Aside0.mk hp5
              have hpp5 : pos ≤ p5 := by omega
              clear hnl hnl2 ho hee h1 hp4 hp5
              go_wp2_with (go_at_call 48; refine (HAC.out _ _ _ PM aPM HX7.out hp4s).mono ?_; rintro e wq ⟨kq2, rfl, hxq⟩; (rw [HP5.out] at hxq); have HX8 := Aside0.mk hxq; clear hxq)
              go_loopg [] (a.size - p5) (fun kq w' => ∃ p k : Nat, p5 ≤ p ∧ p ≤ a.size ∧ Aside0 (kq = a.size - p ∧ Lx w0 w' g a pos p k ts ∧ span D10 (a.data.toList.drop p5) = p - p5 + span D10 (a.data.toList.drop p)))
              case atStart => exact ⟨p5, _, Nat.le_refl _, by omega, ⟨rfl, HX8.out, by omega⟩⟩
              case round =>
                obtain ⟨p, k0, hp1, hp2, HI⟩ := hrel
                have hlp : (a.data.toList.drop p).length = a.size - p := by rw [List.length_drop]; rfl
                have HLP := Aside0.mk hlp
                clear hlp
                go_upto_if 31 with (first | (go_at_call 34; refine (HN.out _ _ _ HI.out.2.1 (by omega)).mono ?_; rintro e w3 ⟨r, k, hn, rfl, hx3⟩; have HX3 := Aside0.mk hx3; have hkl := Nat.le_trans hn.le (Nat.le_of_eq HLP.out); have HNX := Aside0.mk hn; clear hn hx3) | (go_at_call 51; refine (has_calls D10 _ _ aD10).mono ?_; rintro e w4 ⟨rfl, hb4⟩; have HX4 := Aside0.mk (Lx.below HX3.out hb4); clear hb4))
                have F := hd_nx aD10 HNX.out
                by_cases hh : hd D10 (a.data.toList.drop p) = true
                · have e1 : hasb D10 r = true := F.1.trans hh
                  have hk := (F.2 hh).1
                  subst hk
                  have hsz := hd_sz hh
                  have HS := Aside0.mk (span_t hh)
                  clear F hh
                  rw [e1]
                  go_wp2
                  go_roundg (a.size - (p + 1))
                  case measure => have := HI.out.1; omega
                  case rel =>
                    refine ⟨p + 1, 1, by omega, by omega, ⟨rfl, HX4.out, ?_⟩⟩
                    have h1 := HI.out.2.2
                    have h2 := HS.out
                    rw [drop2] at h2
                    omega
                · have hf : hd D10 (a.data.toList.drop p) = false := by simpa using hh
                  have e1 : hasb D10 r = false := F.1.trans hf
                  have hpe : p = p5 + span D10 (a.data.toList.drop p5) := by
                    have h1 := HI.out.2.2
                    rw [span_f hf] at h1
                    omega
                  have HPE := Aside0.mk hpe
                  have hkl2 : p + k ≤ 100000 := by omega
                  clear F hh hf hpe
                  rw [e1]
                  go_wp2_with (go_at_call 36; refine (HBK.out _ _ _ HX4.out (by omega) hkl2).mono ?_; rintro e w5 ⟨rfl, hx5⟩; (rw [Nat.add_sub_cancel] at hx5); have HX5 := Aside0.mk hx5; clear hx5)
                  go_meet
                  case rel =>
                    refine ⟨p, _, by omega, hp2, ⟨HX5.out, ?_⟩⟩
                    have := HH5.out
                    rw [← HPE.out] at this
                    exact this
            | false =>
              have hf : hd EE (a.data.toList.drop p3) = false := HBE.out
              have hee : ¬ hd EE (a.data.toList.drop p3) = true := by rw [hf]; simp
              have ho : opt EE (a.data.toList.drop p3) = 0 := by unfold opt; rw [if_neg hee]
              rw [ho, Nat.add_zero] at HX7
              have hnl := HQ3.out.2
              unfold expT at hnl
              rw [if_neg hee, Nat.add_zero] at hnl
              have HH5 := Aside0.mk hnl
              clear hnl ho hee hf
              go_wp2
              go_meet
              case rel => exact ⟨p3, _, hp3g, hp3s, ⟨HX7.out, HH5.out⟩⟩
          case rest =>
            clear HX7 HQ3
            obtain ⟨p6, k6, hp6g, hp6, HQ⟩ := hcut
            have hpn : p6 = pos + NL := by have := HQ.out.2; omega
            have hff : numE (a.data.toList.drop p6) NL = some o := by
              have h := HF.out
              unfold numF at h
              rw [HNL.out, drop2, ← hpn] at h
              exact h
            have HFF := Aside0.mk hff
            clear hff
            go_upto_if 37 with (first | (go_at_call 43; refine (HPK.out _ _ _ HQ.out.1 hp6).mono ?_; rintro e w7 ⟨r, k, hn, rfl, hx7⟩; have HX7 := Aside0.mk hx7; (obtain ⟨b, hlb, hcase⟩ := num_end hn HFF.out); have HLB := Aside0.mk hlb; have HC := Aside0.mk hcase; clear hn hx7 hlb hcase) | (go_at_call 52; refine (dbus_zzLetter.calls 3 r b _ HLB.out).mono ?_; rintro e w8 ⟨rfl, ⟨m8, rfl⟩⟩))
            cases b with
            | false =>
              have ho := HC.out
              rw [if_neg (by simp)] at ho
              go_wp2_with (go_at_call 35; refine (HM.out _ _ _ (by repeat (first | exact HX7.out | apply Lx.drewN)) (by omega) (by omega)).mono ?_; rintro e w9 ⟨rfl, hx9⟩; have HX9 := Aside0.mk hx9; clear hx9)
              go_ret
              subst ho
              exact ⟨rfl, _, by have := HX9.out; rw [hpn] at this; exact this⟩
            | true =>
              have ho := HC.out
              rw [if_pos rfl] at ho
              go_upto_region 19 with (go_at_call 34; refine (HN.out _ _ _ (by repeat (first | exact HX7.out | apply Lx.drewN)) hp6).mono ?_; rintro e w9 ⟨r9, k9, hn9, rfl, hx9⟩; have hkl9 := hn9.le; have HX9 := Aside0.mk hx9; clear hn9 hx9)
              (rw [List.length_drop] at hkl9)
              have hsz : a.data.toList.length = a.size := rfl
              obtain ⟨E, hE⟩ : ∃ E, p6 + k9 = E := ⟨_, rfl⟩
              rw [hE] at HX9
              have c0 := HX9.out.c0
              have c1 := HX9.out.c1
              have c2 := HX9.out.c2
              have i3 : (E : Int) ≤ (a.size : Int) := by omega
              have i4 : (0 : Int) ≤ (pos : Int) := by omega
              have i5 : (pos : Int) ≤ (E : Int) := by omega
              clear hE hkl9 hsz
              go_region_held3 (fun w' => w'.cell? ⟨g, 0, none⟩ = some (.string a) ∧ w'.cell? ⟨g, 1, none⟩ = some (.int .i64 (pos : Int)) ∧ w'.cell? ⟨g, 2, none⟩ = some (.int .i64 (E : Int))) (first | exact kk.out | go_keep)
                ((go_at_call 47; refine (HE.out _ _ _ _ _ (by repeat (first | exact HX9.out | apply Lx.drewN | apply Lx.drew | apply Lx.alloc))).mono ?_; rintro e w10 ⟨rfl, hx10⟩; have HX10 := Aside0.mk hx10; have kk := Aside0.mk (And.intro hx10.c0 (And.intro hx10.c1 hx10.c2)); clear hx10))
              all_goals
                go_wp2
                go_ret
                subst ho
                exact ⟨rfl, _, _, _, HX10.out⟩


end Go.Proofs.YthcafnmagidpiaaDoor.MFnVtTokens
