-- A trial text of this session.
import Derived.Test.YtcnhpiodomknfaaGreatDoorWt13
namespace Go.Proofs.YtcnhpiodomknfaaGreatDoor.MFnWrTurned
open Go.RowKit Go.Proofs.YtcnhpiodomknfaaGreatDoorW.PrintWords Go.Proofs.YtcnhpiodomknfaaGreatDoorW.PrintLast Go.Proofs.YtcnhpiodomknfaaGreatDoorW.PrintMore
attribute [local go_sem] max2_int min2_int max_two min_two max_three min_three max_four min_four
set_option linter.unusedVariables false
set_option linter.unusedSimpArgs false

attribute [local go_sem] as2_2 as2_4 as2_5 as2_21 as2_25 as2_43 as2_87 as2_90 as2_121 as2_130 as2_131 as2_132 as5_2 as5_5 as5_21 as5_25 as5_43 as5_87 as5_90 as5_91 as5_137 as21_4 as21_5 as21_21 as21_25 as21_43 as21_87 as21_90 as21_121 as21_130 as21_131 as21_132 as25_2 as25_4 as25_5 as25_21 as25_25 as25_43 as25_87 as25_90 as25_130 as25_131 as25_132 as25_137 as43_4 as43_5 as43_25 as43_43 as43_87 as43_90 as43_121 as43_130 as43_131 as43_132 as87_2 as87_4 as87_5 as87_21 as87_43 as87_87 as87_90 as87_130 as87_131 as87_132 as87_137 as90_2 as90_4 as90_5 as90_21 as90_43 as90_90 as90_130 as90_131 as90_132 as90_137 as91_2 as91_4 as91_5 as91_21 as91_25 as91_43 as91_87 as91_90 as91_91 as91_121 as91_130 as91_131 as91_132 as91_137 as121_2 as121_4 as121_5 as121_9 as121_21 as121_25 as121_43 as121_87 as121_90 as121_91 as121_95 as121_103 as121_105 as121_121 as121_130 as121_131 as121_132 as121_137 as127_2 as127_4 as127_5 as127_9 as127_21 as127_24 as127_25 as127_43 as127_55 as127_87 as127_90 as127_91 as127_95 as127_103 as127_105 as127_121 as127_127 as127_130 as127_131 as127_132 as127_137 as127_146 as91_91f
set_option maxRecDepth 100000 in
set_option maxHeartbeats 16000000 in
theorem tl (c : UInt8) (k pad : Nat) (hpad : pad ≤ 8) (hdr zs l : List UInt8) (hh : hdr.length = 4) (hl : l.length ≤ 5000) (hz : zs.length ≤ 8) (ord : Value) (pi : Int)
    (b e x bi ei L : Nat) (zb : Nat) (zo : Array Value) (zT : TypeId) (hzT : zT ≠ 5) (hzb : zb ≠ b ∧ zb ≠ e ∧ zb < bi) (Ws : World) (hbe : b < e) (hebi : e < bi) (hxe : x ≠ e) (hxb : x ≠ b) (hxi : x < bi) (hei : bi < ei) (W0 : World) (hWs : Below b Ws W0) (hbi : bi < W0.heap.size) (F0 : List (Nat × Obj)) (hInn : Inn bi (Lib.byteCells l) F0) (hF0 : Fs W0 F0) (hzo : W0.heap[zb]? = some (.cells zo zT (0, 0))) (hx : W0.heap[x]? = some (.cells #[.iface 127 (.pointer (some ⟨L, 0, none⟩)), .string ⟨#[91, c]⟩] 73 (0, 0))) (hei0 : W0.heap[ei]? = some (.cells #[.iface 50 (.pointer (some ⟨bi, 0, none⟩)), .slice none 0 0, ord, .int .i64 (pi)] 65 (0, 0))) (he : W0.heap[e]? = some (.cells #[.iface 50 (.pointer (some ⟨b, 0, none⟩)), .slice none 0 0, ord, .int .i64 (0)] 65 (0, 0))) (lr : Int) (hb : W0.heap[b]? = some (.cells #[.slice none 0 0, .int .i64 0, .int .i8 lr] 47 (0, 0)))
    (hEL : ∀ W, Calls Tryz.prog 38 #[.string ⟨#[91, c]⟩] W fun e w' => e = .returned (.string ⟨#[c]⟩) ∧ w' = W) (hAL : ∀ W, Calls Tryz.prog 23 #[.string ⟨#[c]⟩] W fun e w' => e = .returned (.int .i64 (k : Int)) ∧ w' = W)
    (hAG : ∀ W g, Ob W b g (Lib.byteCells hdr) → W.heap[e]? = some (.cells #[.iface 50 (.pointer (some ⟨b, 0, none⟩)), .slice none 0 0, ord, .int .i64 (4)] 65 (0, 0)) → ∀ F, Fs W F → (∀ p ∈ F, p.1 ≠ g ∧ p.1 ≠ b ∧ p.1 ≠ e) → e ≠ g → Calls Tryz.prog 22 #[.pointer (some ⟨e, 0, none⟩), .int .i64 (k : Int)] W fun e' w' => e' = .returned (.tuple #[]) ∧ Ob w' b g (Lib.byteCells (hdr ++ zs)) ∧ w'.heap[e]? = some (.cells #[.iface 50 (.pointer (some ⟨b, 0, none⟩)), .slice none 0 0, ord, .int .i64 (4 + (pad : Int))] 65 (0, 0)) ∧ Fs w' F ∧ Below b W w')
    (hEU : ∀ W (Q : World → Prop), W.heap[e]? = some (.cells #[.iface 50 (.pointer (some ⟨b, 0, none⟩)), .slice none 0 0, ord, .int .i64 (0)] 65 (0, 0)) → (∀ w', Q w' → w'.heap[e]? = some (.cells #[.iface 50 (.pointer (some ⟨b, 0, none⟩)), .slice none 0 0, ord, .int .i64 (0)] 65 (0, 0))) → (∀ W1, Below W.heap.size W W1 → ∀ a T, W.heap.size ≤ a → W1.heap[a]? = some (.cells (Lib.byteCells hdr).toArray T (0, 0)) → Calls Tryz.prog 98 #[.pointer (some ⟨b, 0, none⟩), .slice (some ⟨a, 0, none⟩) 4 4] W1 fun e w' => e = .returned (.tuple #[.int .i64 4, .nilIface]) ∧ Q w') →
      Calls Tryz.prog 19 #[.pointer (some ⟨e, 0, none⟩), .agg #[.iface 87 (.int .u32 (l.length : Int)), .string ⟨#[117]⟩], .int .i64 0] W fun e' w' => e' = .returned (.tuple #[]) ∧ ∃ w1, Q w1 ∧ w' = w1.setCell ⟨e, 3, none⟩ (.int .i64 4))
    {u1 u3 u5 u6 u7 u8 u9 u10 u11 u12 u13 u14 u15 u16 u19 u20 u21 u22 u23 u24 u25 u26 u27 u28 u29 u30 u31 u32 u33 u34 u35 u36 u37 u38 u39 u40 u41 u42 u43 u44 u45 u46 u47 u48 u49 u50 u51 u52 u53 u54 u55 u56 u57 u58 u59 u60 u61 u62 u63 u64 u65 u66 u67 u68 u69 u70 u71 u72 u73 u74 u75 u76 u77 u78 u79 u80 u81 u82 u83 u84 u85 u86 u87 u88 u89 u90 u91 u92 u93 u94 u95 u96 u97 u98 u99 u100 u101 u102 u103 u104 u105 u106 u107 u108 u109 u110 u111 u112 u113 u114 u115 u116 u117 u118 u119 u120 u121 u122 u123 u124 u125 u126 u127 u128 u129 u130 u131 u132 u133 u134 u135 u136 u137 u138 u139 u140 u141 u142 u143 u144 u145 u146 u147 u148 u149 u150 u151 u152 u153 u154 u155 u156 u157 u158 u159 u160 u161 u162 u163 u164 u165 u166 u167 u168 u169 u170 u171 u172 u173 u174 u175 u176 u177 u178 u179 u180 u181 u182 u183 u184 u185 u186 u187 u188 u189 u190 u191 u192 u193 u194 u195 u196 u197 u198 u199 u200 u201 u202 u203 u204 u205 u206 u207 u208 u209 u210 u211 u212 u213 u214 u215 u216 u217 u218 u219 u220 u221 u222 u223 u224 u225 u226 u227 u228 u229 u230 u231 u232 u233 u234 u235 u236 u237 u238 u239 u240 u241 u242 u243 u244 u245 u246 u247 u248 u249 u250 u251 u252 u253 u254 u255 u256 u257 u258 u259 u260 u261 u262 u263 u264 u265 u266 u267 u268 u269 u270 u271 u272 u273 u274 u275 u276 u277 u278 u279 u280 u281 u282 u283 u284 u285 u286 u287 u288 u289 u290 u291 u292 u293 u294 u295 u296 u297 u298 u299 u300 u301 u302 u303 u304 u305 u306 u307 u308 u309 u310 u311 u312 u313 u314 u315 u316 u317 u318 u319 u320 u321 u322 u323 u324 u325 u326 u327 u328 u329 u330 u331 u332 u333 u334 u335 u336 u337 u338 u339 u340 u341 u342 u343 u344 u345 u346 u347 u348 u349 u350 u351 u352 u353 u354 u355 u356 u357 u358 u359 u360 u361 u362 u363 u364 u365 u366 u367 u368 u369 u370 u371 u372 u373 u374 u375 u376 u377 u378 u379 u380 u381 u382 u383 u384 u385 u386 u387 u388 u389 u390 u391 u392 u393 u394 u395 u396 u397 u398 u399 u400 u401 u402 u403 u404 u405 u406 u407 u408 u409 u410 u411 u412 u413 u414 u415 u416 u417 u418 u419 u420 u421 u422 u423 u424 u425 u426 u427 u428 u429 u430 u431 u432 u433 u434 u435 u436 u437 u438 u439 u440 u441 u442 u443 u444 u445 u446 u447 u448 u449 u450 u451 u452 u453 u454 u455 u456 u457 u458 u459 u460 u461 u462 u463 u464 u465 u466 u467 u468 u469 u470 u471 u472 u473 u474 u475 u476 u477 u478 u479 u480 u481 u482 u483 u484 u485 u486 u487 u488 u489 u490 u491 u492 u493 u494 u495 u496 u497 u498 u499 u500 u501 u502 u503 u504 u505 u506 u507 u508 u509 u510 u511 u512 u513 u514 u515 u516 u517 u518 u519 u520 u521 u522 u523 u524 u525 u526 u527 u528 u529 u530 u531 u532 u533 u534 u535 u536 u537 u538 u539 u540 u541 u542 u543 u544 u545 u546 u547 u548 u549 u550 u551 u552 u553 u554 u555 u556 u557 u558 u559 u560 u561 u562 u563 u564 u565 u566 u567 u568 u569 u570 u571 u572 u573 u574 u575 u576 u577 : Value} :
    Code.wp Tryz.prog (cr (cr (cr (cr (cr (ct (cr (ce (cr (ce (cr (ce (cr (ce (cr (ce (cr (ce (cr (ce (cr (ce (cr (ce (cr (ce (cr (ce (cr (cb (cr (cr (cr (cr (cB Tryz.f19))))))))))))))))))))))))))))))))))) (Exit.inBlock 0 (bodyPost Tryz.prog Tryz.f19 fun e' w' => e' = .returned (.tuple #[]) ∧ Lib.IsBuffer 47 5 b b (Lib.byteCells (hdr ++ zs ++ l)) w' ∧ Below b Ws w' ∧ w'.heap[zb]? = some (.cells zo zT (0, 0)))) ⟨List.toArray (.pointer (some ⟨e, 0, none⟩)::u1::.int .i64 0::u3::.pointer (some ⟨x, 0, none⟩)::u5::u6::u7::u8::u9::u10::u11::u12::u13::u14::u15::u16::.pointer (some ⟨bi, 0, none⟩)::.pointer (some ⟨ei, 0, none⟩)::u19::u20::u21::u22::u23::u24::u25::u26::u27::u28::u29::u30::u31::u32::u33::u34::u35::u36::u37::u38::u39::u40::u41::u42::u43::u44::u45::u46::u47::u48::u49::u50::u51::u52::u53::u54::u55::u56::u57::u58::u59::u60::u61::u62::u63::u64::u65::u66::u67::u68::u69::u70::u71::u72::u73::u74::u75::u76::u77::u78::u79::u80::u81::u82::u83::u84::u85::u86::u87::u88::u89::u90::u91::u92::u93::u94::u95::u96::u97::u98::u99::u100::u101::u102::u103::u104::u105::u106::u107::u108::u109::u110::u111::u112::u113::u114::u115::u116::u117::u118::u119::u120::u121::u122::u123::u124::u125::u126::u127::u128::u129::u130::u131::u132::u133::u134::u135::u136::u137::u138::u139::u140::u141::u142::u143::u144::u145::u146::u147::u148::u149::u150::u151::u152::u153::u154::u155::u156::u157::u158::u159::u160::u161::u162::u163::u164::u165::u166::u167::u168::u169::u170::u171::u172::u173::u174::u175::u176::u177::u178::u179::u180::u181::u182::u183::u184::u185::u186::u187::u188::u189::u190::u191::u192::u193::u194::u195::u196::u197::u198::u199::u200::u201::u202::u203::u204::u205::u206::u207::u208::u209::u210::u211::u212::u213::u214::u215::u216::u217::u218::u219::u220::u221::u222::u223::u224::u225::u226::u227::u228::u229::u230::u231::u232::u233::u234::u235::u236::u237::u238::u239::u240::u241::u242::u243::u244::u245::u246::u247::u248::u249::u250::u251::u252::u253::u254::u255::u256::u257::u258::u259::u260::u261::u262::u263::u264::u265::u266::u267::u268::u269::u270::u271::u272::u273::u274::u275::u276::u277::u278::u279::u280::u281::u282::u283::u284::u285::u286::u287::u288::u289::u290::u291::u292::u293::u294::u295::u296::u297::u298::u299::u300::u301::u302::u303::u304::u305::u306::u307::u308::u309::u310::u311::u312::u313::u314::u315::u316::u317::u318::u319::u320::u321::u322::u323::u324::u325::u326::u327::u328::u329::u330::u331::u332::u333::u334::u335::u336::u337::u338::u339::u340::u341::u342::u343::u344::u345::u346::u347::u348::u349::u350::u351::u352::u353::u354::u355::u356::u357::u358::u359::u360::u361::u362::u363::u364::u365::u366::u367::u368::u369::u370::u371::u372::u373::u374::u375::u376::u377::u378::u379::u380::u381::u382::u383::u384::u385::u386::u387::u388::u389::u390::u391::u392::u393::u394::u395::u396::u397::u398::u399::u400::u401::u402::u403::u404::u405::u406::u407::u408::u409::u410::u411::u412::u413::u414::u415::u416::u417::u418::u419::u420::u421::u422::u423::u424::u425::u426::u427::u428::u429::u430::u431::u432::u433::u434::u435::u436::u437::u438::u439::u440::u441::u442::u443::u444::u445::u446::u447::u448::u449::u450::u451::u452::u453::u454::u455::u456::u457::u458::u459::u460::u461::u462::u463::u464::u465::u466::u467::u468::u469::u470::u471::u472::u473::u474::u475::u476::u477::u478::u479::u480::u481::u482::u483::u484::u485::u486::u487::u488::u489::u490::u491::u492::u493::u494::u495::u496::u497::u498::u499::u500::u501::u502::u503::u504::u505::u506::u507::u508::u509::u510::u511::u512::u513::u514::u515::u516::u517::u518::u519::u520::u521::u522::u523::u524::u525::u526::u527::u528::u529::u530::u531::u532::u533::u534::u535::u536::u537::u538::u539::u540::u541::u542::u543::u544::u545::u546::u547::u548::u549::u550::u551::u552::u553::u554::u555::u556::u557::u558::u559::u560::u561::u562::u563::u564::u565::u566::u567::u568::u569::u570::u571::u572::u573::u574::u575::u576::u577::[]), []⟩ W0 := by
  have hF : Fs W0 (F0 ++ [(x, .cells #[.iface 127 (.pointer (some ⟨L, 0, none⟩)), .string ⟨#[91, c]⟩] 73 (0, 0)), (ei, .cells #[.iface 50 (.pointer (some ⟨bi, 0, none⟩)), .slice none 0 0, ord, .int .i64 (pi)] 65 (0, 0)), (zb, .cells zo zT (0, 0))]) := by
    intro p hp
    rcases List.mem_append.1 hp with h | h
    · exact hF0 p h
    · simp at h
      rcases h with rfl | rfl | rfl
      · exact hx
      · exact hei0
      · exact hzo
  have hFge : ∀ p ∈ F0, bi ≤ p.1 := by
    rcases hInn with ⟨_, lr, rfl⟩ | ⟨g, cap, cur, lr, rfl, _, _, _, _, _, _, h7⟩
    · simp
    · simp; omega
  have hFne : ∀ p ∈ (F0 ++ [(x, Obj.cells #[.iface 127 (.pointer (some ⟨L, 0, none⟩)), .string ⟨#[91, c]⟩] 73 (0, 0)), (ei, .cells #[.iface 50 (.pointer (some ⟨bi, 0, none⟩)), .slice none 0 0, ord, .int .i64 (pi)] 65 (0, 0)), (zb, .cells zo zT (0, 0))]), p.1 ≠ b ∧ p.1 ≠ e := by
    intro p hp
    rcases List.mem_append.1 hp with h | h
    · have := hFge p h
      omega
    · simp at h
      rcases h with rfl | rfl | rfl
      · exact ⟨hxb, hxe⟩
      · constructor <;> simp <;> omega
      · exact ⟨hzb.1, hzb.2.1⟩
  generalize hFd : (F0 ++ [(x, Obj.cells #[.iface 127 (.pointer (some ⟨L, 0, none⟩)), .string ⟨#[91, c]⟩] 73 (0, 0)), (ei, .cells #[.iface 50 (.pointer (some ⟨bi, 0, none⟩)), .slice none 0 0, ord, .int .i64 (pi)] 65 (0, 0)), (zb, .cells zo zT (0, 0))]) = F at hF hFne
  have hsub : ∀ W, Fs W F → Fs W F0 ∧ W.heap[x]? = some (.cells #[.iface 127 (.pointer (some ⟨L, 0, none⟩)), .string ⟨#[91, c]⟩] 73 (0, 0)) ∧ W.heap[ei]? = some (.cells #[.iface 50 (.pointer (some ⟨bi, 0, none⟩)), .slice none 0 0, ord, .int .i64 (pi)] 65 (0, 0)) ∧ W.heap[zb]? = some (.cells zo zT (0, 0)) := by
    intro W h
    subst hFd
    exact ⟨fun p hp => h p (List.mem_append_left _ hp), h (x, _) (by simp), h (ei, _) (by simp), h (zb, _) (by simp)⟩
  have HSB : Aside0 (∀ p ∈ F0, p ∈ F) := ⟨by subst hFd; exact fun p hp => List.mem_append_left _ hp⟩
  clear hF0 hFge hFd
  have hll : (Lib.byteCells l).length = l.length := Lib.byteCells_length l
  have HLEN : Aside0 (∀ W, Fs W F → Calls Tryz.prog 40 #[.pointer (some ⟨bi, 0, none⟩)] W fun e w' => e = .returned (.int .i64 (l.length : Int)) ∧ ∃ k, w' = W.drewN k) := ⟨fun W h => by have := inn_len hInn (hsub W h).1; rw [hll] at this; exact this⟩
  have hgt : decide ((67108864 : Int) < (l.length : Int)) = false := by simp; omega
  have hw32 : IntKind.u32.wrap (l.length : Int) = (l.length : Int) := by simp [IntKind.wrap, IntKind.bits, IntKind.signed]; omega
  have i1 : ∀ k, (W0.drewN k).cell? ⟨ei, 1, none⟩ = some (.slice none 0 0) := fun k => (cell_of_row W0 ei 1 _ 65 (0, 0) hei0).trans rfl
  have i2 : W0.cell? ⟨ei, 1, none⟩ = some (.slice none 0 0) := (cell_of_row W0 ei 1 _ 65 (0, 0) hei0).trans rfl
  have j1 : ∀ k, (W0.drewN k).cell? ⟨e, 1, none⟩ = some (.slice none 0 0) := fun k => (cell_of_row W0 e 1 _ 65 (0, 0) he).trans rfl
  have j2 : W0.cell? ⟨e, 1, none⟩ = some (.slice none 0 0) := (cell_of_row W0 e 1 _ 65 (0, 0) he).trans rfl
  have j3 : ∀ k, (W0.drewN k).frozen? ⟨e, 1, none⟩ = false := fun k => frozen_of_row W0 e 1 _ 65 he
  have j4 := frozen_of_row W0 e 1 _ 65 he
  have HS := Aside0.mk hsub
  have HFN := Aside0.mk hFne
  have HF0 := Aside0.mk hF
  have HE0 := Aside0.mk he
  have HB0 := Aside0.mk hb
  have HIN := Aside0.mk hInn
  have HELs := Aside0.mk hEL
  have HALs := Aside0.mk hAL
  have HAGs := Aside0.mk hAG
  have HEUs := Aside0.mk hEU
  clear hF hFne hsub hInn hx hei0 hzo he hb hEL hAL hAG hEU hll
  dsimp only [cl, cr, ct, ce, cb, cB, Tryz.f19]
  go_wp2_with fail
  refine (HLEN.out _ HF0.out).mono ?_
  rintro e1 w1 ⟨rfl, k1, rfl⟩
  have i1k := i1 k1
  have j1k := j1 k1
  have j3k := j3 k1
  go_wp2_with fail
  have hF1 : Fs ((W0.drewN k1).setCell ⟨e, 1, none⟩ (.slice none 0 0)) F := fun p hp => (Below.heap_setCell (W0.drewN k1) ⟨e, 1, none⟩ _ p.1 (HFN.out p hp).2).trans (HF0.out p hp)
  have hE1 : ((W0.drewN k1).setCell ⟨e, 1, none⟩ (.slice none 0 0)).heap[e]? = some (.cells #[.iface 50 (.pointer (some ⟨b, 0, none⟩)), .slice none 0 0, ord, .int .i64 (0)] 65 (0, 0)) := heap_setCell_same (W0.drewN k1) e 1 _ 65 (.slice none 0 0) HE0.out
  have hB1 : ((W0.drewN k1).setCell ⟨e, 1, none⟩ (.slice none 0 0)).heap[b]? = some (.cells #[.slice none 0 0, .int .i64 0, .int .i8 lr] 47 (0, 0)) := (Below.heap_setCell (W0.drewN k1) ⟨e, 1, none⟩ _ b (by show b ≠ e; omega)).trans HB0.out
  have hL1 : Below b Ws ((W0.drewN k1).setCell ⟨e, 1, none⟩ (.slice none 0 0)) := (hWs.trans (show Below b W0 (W0.drewN k1) from ⟨rfl, rfl, rfl, Nat.le_refl _, fun _ _ => rfl⟩)).setCell (by show b ≤ e; omega) _
  generalize hWa : (W0.drewN k1).setCell ⟨e, 1, none⟩ (.slice none 0 0) = Wa at *
  clear i1 i2 j1 j2 j3 j4 i1k j1k j3k hWa HE0 HB0 HF0
  refine (HLEN.out Wa hF1).mono ?_
  rintro e1 w2 ⟨rfl, k2, rfl⟩
  have HF1 : Aside0 (Fs (Wa.drewN k2) F) := ⟨hF1⟩
  have HE1 : Aside0 ((Wa.drewN k2).heap[e]? = some (.cells #[.iface 50 (.pointer (some ⟨b, 0, none⟩)), .slice none 0 0, ord, .int .i64 (0)] 65 (0, 0))) := ⟨hE1⟩
  have HB1 : Aside0 ((Wa.drewN k2).heap[b]? = some (.cells #[.slice none 0 0, .int .i64 0, .int .i8 lr] 47 (0, 0))) := ⟨hB1⟩
  have HL1 : Aside0 (Below b Ws (Wa.drewN k2)) := ⟨hL1.trans ⟨rfl, rfl, rfl, Nat.le_refl _, fun _ _ => rfl⟩⟩
  clear hF1 hE1 hB1 hL1
  go_wp2_with fail
  generalize hWb : Wa.drewN k2 = Wb at *
  refine (zv_u (l.length : Int) Wb).mono ?_
  rintro e1 w3 ⟨rfl, hb3⟩
  have HF3 := Aside0.mk (HF1.out.below hb3)
  have HE3 := Aside0.mk (up_heap2 hb3 HE1.out)
  have HB3 := Aside0.mk (up_heap2 hb3 HB1.out)
  have HL3 := Aside0.mk (HL1.out.trans (keep_below hb3 (Nat.le_of_lt (Array.getElem?_eq_some_iff.1 HB1.out).1)))
  clear hb3 hWb HF1 HE1 HB1 HL1
  have hbs : b < w3.heap.size := (Array.getElem?_eq_some_iff.1 HB3.out).1
  have hes : e < w3.heap.size := (Array.getElem?_eq_some_iff.1 HE3.out).1
  have hch : (Lib.byteCells hdr).length = 4 := by rw [Lib.byteCells_length, hh]
  have HCALL := Aside0.mk (HEUs.out w3 (fun w' => ∃ g, Ob w' b g (Lib.byteCells hdr) ∧ w'.heap[e]? = some (.cells #[.iface 50 (.pointer (some ⟨b, 0, none⟩)), .slice none 0 0, ord, .int .i64 (0)] 65 (0, 0)) ∧ Fs w' F ∧ Below b w3 w' ∧ w3.heap.size ≤ g) HE3.out (fun w' h => by obtain ⟨g, _, h2, _⟩ := h; exact h2)
    (fun W1 hB a T ha hc => by
      have hb1 := up_heap2 hB HB3.out
      refine (wr_nil W1 b a T lr (Lib.byteCells hdr) hb1 (by omega) hc hch (byte_one _)).mono ?_
      rintro e1 w' ⟨he1, q1, q2, q3⟩
      have hsz := hB.size
      obtain ⟨s1, s2⟩ := spl_take (cur := Z64) (l := 0) (n := 4) (cs := Lib.byteCells hdr) (Nat.zero_le _) hch (by rw [Z64_size]; omega) [] rfl
      refine ⟨he1, W1.heap.size, ⟨spl Z64 0 4 (Lib.byteCells hdr), 0, ?_, q2, s2.trans Z64_size, ?_, by rw [hch]; omega, by omega⟩, ?_, ?_, ?_, hsz⟩
      · rw [hch]; exact q1
      · rw [hch]; exact s1
      · exact (q3.block e (by omega) (by simp; omega)).trans (up_heap2 hB HE3.out)
      · exact (HF3.out.below hB).grown q3 fun p hp => (HFN.out p hp).1
      · exact (keep_below hB (Nat.le_of_lt hbs)).trans ⟨q3.os, q3.tape, q3.output, q3.size, fun k hk => q3.block k (by omega) (by simp; omega)⟩))
  go_wp2_with fail
  refine HCALL.out.mono ?_
  rintro e1 w5 ⟨rfl, w4, ⟨g, hO4, hE4, hF4, hL4, hg4⟩, hw5⟩
  have hO5 : Ob w5 b g (Lib.byteCells hdr) := by subst hw5; exact hO4.keep (Below.heap_setCell w4 ⟨e, 3, none⟩ _ b (by show b ≠ e; omega)) (Below.heap_setCell w4 ⟨e, 3, none⟩ _ g (by show g ≠ e; omega))
  have hE5 : w5.heap[e]? = some (.cells #[.iface 50 (.pointer (some ⟨b, 0, none⟩)), .slice none 0 0, ord, .int .i64 (4)] 65 (0, 0)) := by subst hw5; exact heap_setCell_same w4 e 3 _ 65 (.int .i64 4) hE4
  have hF5 : Fs w5 F := by subst hw5; exact fun p hp => (Below.heap_setCell w4 ⟨e, 3, none⟩ _ p.1 (HFN.out p hp).2).trans (hF4 p hp)
  have hL5 : Below b Ws w5 := by subst hw5; exact (HL3.out.trans hL4).setCell (by show b ≤ e; omega) _
  have hFg : ∀ p ∈ F, p.1 ≠ g := fun p hp => by have := HF3.out.lt p hp; omega
  have hgx : g ≠ e := by omega
  clear hw5 HCALL hO4 hE4 hF4 hL4 HF3 HE3 HB3 HL3 hg4
  have HO5 := Aside0.mk hO5
  have HE5 := Aside0.mk hE5
  have HF5 := Aside0.mk hF5
  have HL5 := Aside0.mk hL5
  have HFG := Aside0.mk hFg
  clear hO5 hE5 hF5 hL5 hFg
  go_wp2_with fail
  refine (HLEN.out w5 HF5.out).mono ?_
  rintro e1 w6 ⟨rfl, k3, rfl⟩
  have hx5 := (HS.out w5 HF5.out).2.1
  have x0 : (w5.drewN k3).cell? ⟨x, 0, none⟩ = some (.iface 127 (.pointer (some ⟨L, 0, none⟩))) := (cell_of_row w5 x 0 _ 73 (0, 0) hx5).trans rfl
  have x1 : (w5.drewN k3).cell? ⟨x, 1, none⟩ = some (.string ⟨#[91, c]⟩) := (cell_of_row w5 x 1 _ 73 (0, 0) hx5).trans rfl
  clear hx5
  go_wp2_with fail
  refine (ty_calls _ rfl _ _).mono ?_
  rintro e1 w6 ⟨rfl, hb6⟩
  have HB6 : Aside0 (Below w5.heap.size w5 w6) := ⟨(show Below w5.heap.size w5 (w5.drewN k3) from ⟨rfl, rfl, rfl, Nat.le_refl _, fun _ _ => rfl⟩).trans hb6⟩
  clear hb6
  go_wp2_with fail
  refine (HELs.out _).mono ?_
  rintro e1 w6 ⟨rfl, rfl⟩
  go_wp2_with fail
  refine (HALs.out _).mono ?_
  rintro e1 w6 ⟨rfl, rfl⟩
  go_wp2_with fail
  have hbs5 : b < w5.heap.size := HO5.out.isb.lt
  have hgs5 : g < w5.heap.size := by obtain ⟨_, _, _, h2, _⟩ := HO5.out; exact (Array.getElem?_eq_some_iff.1 h2).1
  refine (HAGs.out w6 g (HO5.out.keep (HB6.out.block b hbs5) (HB6.out.block g hgs5)) (up_heap2 HB6.out HE5.out) F (HF5.out.below HB6.out) (fun p hp => ⟨HFG.out p hp, HFN.out p hp⟩) (Ne.symm hgx)).mono ?_
  rintro e1 w7 ⟨rfl, hO7, hE7, hF7, hL7⟩
  have HL7 := Aside0.mk (HL5.out.trans ((keep_below HB6.out (Nat.le_of_lt hbs5)).trans hL7))
  have z0 : w7.cell? ⟨e, 0, none⟩ = some (.iface 50 (.pointer (some ⟨b, 0, none⟩))) := (cell_of_row w7 e 0 _ 65 (0, 0) hE7).trans rfl
  have hwt := inn_wto HIN.out (HS.out w7 hF7).1 hO7 (fun p hp => HFG.out p (HSB.out p hp)) (by omega) (byte_one _) (byte_one _) (by rw [Lib.byteCells_length]; exact hl) (by rw [Lib.byteCells_length, List.length_append, hh]; omega)
  rw [Lib.byteCells_length l] at hwt
  have HWT := Aside0.mk hwt
  have HE7 := Aside0.mk hE7
  have HZ7 := Aside0.mk (HS.out w7 hF7).2.2.2
  clear hwt hE7 hO7 hF7 hL7
  go_wp2_with fail
  refine HWT.out.mono ?_
  rintro e1 w8 ⟨rfl, hI8, hL8, hE8⟩
  have hE9 := hE8 e _ 65 (by omega) (by omega) (by decide) HE7.out
  have HZ9 : Aside0 (∀ v, (w8.setCell ⟨e, 3, none⟩ v).heap[zb]? = some (.cells zo zT (0, 0))) := ⟨fun v => (Below.heap_setCell w8 ⟨e, 3, none⟩ v zb hzb.2.1).trans (hE8 zb _ zT hzb.1 (by omega) hzT HZ7.out)⟩
  have z3 : w8.cell? ⟨e, 3, none⟩ = some (.int .i64 (4 + (pad : Int))) := (cell_of_row w8 e 3 _ 65 (0, 0) hE9).trans rfl
  have z4 := frozen_of_row w8 e 3 _ 65 hE9
  have hwr : IntKind.i64.wrap (4 + (pad : Int) + (l.length : Int)) = 4 + (pad : Int) + (l.length : Int) := by rw [IntKind.wrap_i64]; omega
  have HIE : Aside0 (∀ v, Lib.IsBuffer 47 5 b b (Lib.byteCells (hdr ++ zs ++ l)) (w8.setCell ⟨e, 3, none⟩ v)) := ⟨fun v => isb_set (by simpa [Lib.byteCells] using hI8) hE9 (by omega)⟩
  have HLE : Aside0 (∀ v, Below b Ws (w8.setCell ⟨e, 3, none⟩ v)) := ⟨fun v => (HL7.out.trans hL8).setCell (by show b ≤ e; omega) v⟩
  clear hI8 hL8 hE8 hE9
  go_wp2
  go_end0
  exact ⟨rfl, HIE.out _, HLE.out _, HZ9.out _⟩


end Go.Proofs.YtcnhpiodomknfaaGreatDoor.MFnWrTurned
