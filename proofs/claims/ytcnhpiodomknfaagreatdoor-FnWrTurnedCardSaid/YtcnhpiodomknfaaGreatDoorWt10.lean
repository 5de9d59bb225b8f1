-- A trial text of this session.
import Derived.Test.YtcnhpiodomknfaaGreatDoorWt9
namespace Go.Proofs.YtcnhpiodomknfaaGreatDoor.MFnWrTurned
open Go.RowKit Go.Proofs.YtcnhpiodomknfaaGreatDoorW.PrintWords Go.Proofs.YtcnhpiodomknfaaGreatDoorW.PrintLast Go.Proofs.YtcnhpiodomknfaaGreatDoorW.PrintMore
attribute [local go_sem] max2_int min2_int max_two min_two max_three min_three max_four min_four
set_option linter.unusedVariables false
set_option linter.unusedSimpArgs false

attribute [local go_sem] as2_2 as2_4 as2_5 as2_21 as2_25 as2_43 as2_87 as2_90 as2_121 as2_130 as2_131 as2_132 as5_2 as5_5 as5_21 as5_25 as5_43 as5_87 as5_90 as5_91 as5_137 as21_4 as21_5 as21_21 as21_25 as21_43 as21_87 as21_90 as21_121 as21_130 as21_131 as21_132 as25_2 as25_4 as25_5 as25_21 as25_25 as25_43 as25_87 as25_90 as25_130 as25_131 as25_132 as25_137 as43_4 as43_5 as43_25 as43_43 as43_87 as43_90 as43_121 as43_130 as43_131 as43_132 as87_2 as87_4 as87_5 as87_21 as87_43 as87_87 as87_90 as87_130 as87_131 as87_132 as87_137 as90_2 as90_4 as90_5 as90_21 as90_43 as90_90 as90_130 as90_131 as90_132 as90_137 as91_2 as91_4 as91_5 as91_21 as91_25 as91_43 as91_87 as91_90 as91_91 as91_121 as91_130 as91_131 as91_132 as91_137 as121_2 as121_4 as121_5 as121_9 as121_21 as121_25 as121_43 as121_87 as121_90 as121_91 as121_95 as121_103 as121_105 as121_121 as121_130 as121_131 as121_132 as121_137 as127_2 as127_4 as127_5 as127_9 as127_21 as127_24 as127_25 as127_43 as127_55 as127_87 as127_90 as127_91 as127_95 as127_103 as127_105 as127_121 as127_127 as127_130 as127_131 as127_132 as127_137 as127_146 as91_91f
theorem flat_len {bs : Nat → List UInt8} {k : Nat} (h : ∀ m, (bs m).length = k) : ∀ (ms : List Nat) (i : Nat), i ≤ ms.length → ((ms.take i).flatMap bs).length = k * i
  | _, 0, _ => by simp
  | [], i + 1, hi => by simp at hi
  | m :: ms, i + 1, hi => by
    have := flat_len h ms i (by simpa using hi)
    rw [List.take_succ_cons, List.flatMap_cons, List.length_append, h, this, Nat.mul_add]
    omega
theorem flat_step {ms : List Nat} {i m : Nat} (bs : Nat → List UInt8) (h : ms[i]? = some m) : Lib.byteCells ((ms.take (i + 1)).flatMap bs) = Lib.byteCells ((ms.take i).flatMap bs) ++ Lib.byteCells (bs m) := by
  rw [List.take_add_one, h]
  simp [Lib.byteCells]
set_option maxRecDepth 100000 in
set_option maxHeartbeats 16000000 in
theorem lp (c : UInt8) (k : Nat) (hk : 1 ≤ k ∧ k ≤ 8) (ms : List Nat) (va : Nat → Value) (hva : ∀ m, (va m).oneCell' = true) (bs : Nat → List UInt8) (hbs : ∀ m, (bs m).length = k) (hlen : ms.length ≤ 200) (off : Nat) (hoff : off % k = 0 ∧ off ≤ 8)
    (Wx : World) (L cap x ei : Nat) (A : Option Nat) (hL : Ls Wx L ⟨#[c]⟩ A cap (ms.map va)) (hx : Wx.heap[x]? = some (.cells #[.iface 127 (.pointer (some ⟨L, 0, none⟩)), .string ⟨#[91, c]⟩] 73 (0, 0))) (ord : Value) (hei : Wx.heap.size < ei)
    (HIX : ∀ W, Ls W L ⟨#[c]⟩ A cap (ms.map va) → ∀ (i : Nat) m, ms[i]? = some m → Calls Tryz.prog 39 #[(.agg #[.iface 127 (.pointer (some ⟨L, 0, none⟩)), .string ⟨#[91, c]⟩]), .int .i64 (i : Int)] W fun e w' => e = .returned (.agg #[va m, .string ⟨#[c]⟩]) ∧ Below W.heap.size W w')
    (HEN : ∀ m, m ∈ ms → ∀ (W : World) (pos : Nat), pos ≤ 90000 → pos % k = 0 → ∀ (Q : World → Prop), W.heap[ei]? = some (.cells #[.iface 50 (.pointer (some ⟨Wx.heap.size, 0, none⟩)), .slice none 0 0, ord, .int .i64 ((pos : Int))] 65 (0, 0)) → (∀ w', Q w' → w'.heap[ei]? = some (.cells #[.iface 50 (.pointer (some ⟨Wx.heap.size, 0, none⟩)), .slice none 0 0, ord, .int .i64 ((pos : Int))] 65 (0, 0))) →
      (∀ W1, Below W.heap.size W W1 → ∀ a T, W.heap.size ≤ a → W1.heap[a]? = some (.cells (Lib.byteCells (bs m)).toArray T (0, 0)) → Calls Tryz.prog 98 #[.pointer (some ⟨Wx.heap.size, 0, none⟩), .slice (some ⟨a, 0, none⟩) k k] W1 fun e w' => e = .returned (.tuple #[.int .i64 (k : Int), .nilIface]) ∧ Q w') →
      Calls Tryz.prog 19 #[.pointer (some ⟨ei, 0, none⟩), .agg #[va m, .string ⟨#[c]⟩], .int .i64 1] W fun e' w' => e' = .returned (.tuple #[]) ∧ ∃ w1, Q w1 ∧ w' = w1.setCell ⟨ei, 3, none⟩ (.int .i64 ((pos : Int) + (k : Int))))
    (W0 : World) (h0 : Below Wx.heap.size Wx W0) (hI : Lib.IsBuffer 47 5 Wx.heap.size Wx.heap.size [] W0) (hI0 : W0.heap[Wx.heap.size]? = some (.cells #[.slice none 0 0, .int .i64 0, .int .i8 0] 47 (0, 0))) (he0 : W0.heap[ei]? = some (.cells #[.iface 50 (.pointer (some ⟨Wx.heap.size, 0, none⟩)), .slice none 0 0, ord, .int .i64 ((off : Int))] 65 (0, 0)))
    {u0 u1 u3 u5 u6 u7 u8 u9 u10 u11 u12 u13 u14 u15 u16 u17 u19 u20 u21 u22 u23 u24 u25 u26 u27 u28 u29 u30 u31 u32 u33 u34 u35 u36 u37 u38 u39 u40 u41 u42 u43 u44 u45 u46 u47 u48 u49 u50 u51 u52 u53 u54 u55 u56 u57 u58 u59 u60 u61 u62 u63 u64 u65 u66 u67 u68 u69 u70 u71 u72 u73 u74 u75 u76 u77 u78 u79 u80 u81 u82 u83 u84 u85 u86 u87 u88 u89 u90 u91 u92 u93 u94 u95 u96 u97 u98 u99 u100 u101 u102 u103 u104 u105 u106 u107 u108 u109 u110 u111 u112 u113 u114 u115 u116 u117 u118 u119 u120 u121 u122 u123 u124 u125 u126 u127 u128 u129 u130 u131 u132 u133 u134 u135 u136 u137 u138 u139 u140 u141 u142 u143 u144 u145 u146 u147 u148 u149 u150 u151 u152 u153 u154 u155 u156 u157 u158 u159 u160 u161 u162 u163 u164 u165 u166 u167 u168 u169 u170 u171 u172 u173 u174 u175 u176 u177 u178 u179 u180 u181 u182 u183 u184 u185 u186 u187 u188 u189 u190 u191 u192 u193 u194 u195 u196 u197 u198 u199 u200 u201 u202 u203 u204 u205 u206 u207 u208 u209 u210 u211 u212 u213 u214 u215 u216 u217 u218 u219 u220 u221 u222 u223 u224 u225 u226 u227 u228 u229 u230 u231 u232 u233 u234 u235 u236 u237 u238 u239 u240 u241 u242 u243 u244 u245 u246 u247 u248 u249 u250 u251 u252 u253 u254 u255 u256 u257 u258 u259 u260 u261 u262 u263 u264 u265 u266 u267 u268 u269 u270 u271 u272 u273 u274 u275 u276 u277 u278 u279 u280 u281 u282 u283 u284 u285 u286 u287 u288 u289 u290 u291 u292 u293 u294 u295 u296 u297 u298 u299 u300 u301 u302 u303 u304 u305 u306 u307 u308 u309 u310 u311 u312 u313 u314 u315 u316 u317 u318 u319 u320 u321 u322 u323 u324 u325 u326 u327 u328 u329 u330 u331 u332 u333 u334 u335 u336 u337 u338 u339 u340 u341 u342 u343 u344 u345 u346 u347 u348 u349 u350 u351 u352 u353 u354 u355 u356 u357 u358 u359 u360 u361 u362 u363 u364 u365 u366 u367 u368 u369 u370 u371 u372 u373 u374 u375 u376 u377 u378 u379 u380 u381 u382 u383 u384 u385 u386 u387 u388 u389 u390 u391 u392 u393 u394 u395 u396 u397 u398 u399 u400 u401 u402 u403 u404 u405 u406 u407 u408 u409 u410 u411 u412 u413 u414 u415 u416 u417 u418 u419 u420 u421 u422 u423 u424 u425 u426 u427 u428 u429 u430 u431 u432 u433 u434 u435 u436 u437 u438 u439 u440 u441 u442 u443 u444 u445 u446 u447 u448 u449 u450 u451 u452 u453 u454 u455 u456 u457 u458 u459 u460 u461 u462 u463 u464 u465 u466 u467 u468 u469 u470 u471 u472 u473 u474 u475 u476 u477 u478 u479 u480 u481 u482 u483 u484 u485 u486 u487 u488 u489 u490 u491 u492 u493 u494 u495 u496 u497 u498 u499 u500 u501 u502 u503 u504 u505 u506 u507 u508 u509 u510 u511 u512 u513 u514 u515 u516 u517 u518 u519 u520 u521 u522 u523 u524 u525 u526 u527 u528 u529 u530 u531 u532 u533 u534 u535 u536 u537 u538 u539 u540 u541 u542 u543 u544 u545 u546 u547 u548 u549 u550 u551 u552 u553 u554 u555 u556 u557 u558 u559 u560 u561 u562 u563 u564 u565 u566 u567 u568 u569 u570 u571 u572 u573 u574 u575 u576 u577 : Value} (Kx : Act → World → Prop) (R : Ending → World → Prop)
    (hK : ∀ (W' : World) (v19 v322 v323 v324 v325 v326 v327 v328 v329 v330 v331 v332 v333 v334 : Value), Below Wx.heap.size Wx W' → Lib.IsBuffer 47 5 Wx.heap.size Wx.heap.size (Lib.byteCells (ms.flatMap bs)) W' → (ms.length = 0 → W'.heap[Wx.heap.size]? = some (.cells #[.slice none 0 0, .int .i64 0, .int .i8 0] 47 (0, 0))) → W'.heap[ei]? = some (.cells #[.iface 50 (.pointer (some ⟨Wx.heap.size, 0, none⟩)), .slice none 0 0, ord, .int .i64 (((off + k * ms.length : Nat) : Int))] 65 (0, 0)) → Kx ⟨List.toArray (u0::u1::.int .i64 0::u3::.pointer (some ⟨x, 0, none⟩)::u5::u6::u7::u8::u9::u10::u11::u12::u13::u14::u15::u16::u17::.pointer (some ⟨ei, 0, none⟩)::v19::u20::u21::u22::u23::u24::u25::u26::u27::u28::u29::u30::u31::u32::u33::u34::u35::u36::u37::u38::u39::u40::u41::u42::u43::u44::u45::u46::u47::u48::u49::u50::u51::u52::u53::u54::u55::u56::u57::u58::u59::u60::u61::u62::u63::u64::u65::u66::u67::u68::u69::u70::u71::u72::u73::u74::u75::u76::u77::u78::u79::u80::u81::u82::u83::u84::u85::u86::u87::u88::u89::u90::u91::u92::u93::u94::u95::u96::u97::u98::u99::u100::u101::u102::u103::u104::u105::u106::u107::u108::u109::u110::u111::u112::u113::u114::u115::u116::u117::u118::u119::u120::u121::u122::u123::u124::u125::u126::u127::u128::u129::u130::u131::u132::u133::u134::u135::u136::u137::u138::u139::u140::u141::u142::u143::u144::u145::u146::u147::u148::u149::u150::u151::u152::u153::u154::u155::u156::u157::u158::u159::u160::u161::u162::u163::u164::u165::u166::u167::u168::u169::u170::u171::u172::u173::u174::u175::u176::u177::u178::u179::u180::u181::u182::u183::u184::u185::u186::u187::u188::u189::u190::u191::u192::u193::u194::u195::u196::u197::u198::u199::u200::u201::u202::u203::u204::u205::u206::u207::u208::u209::u210::u211::u212::u213::u214::u215::u216::u217::u218::u219::u220::u221::u222::u223::u224::u225::u226::u227::u228::u229::u230::u231::u232::u233::u234::u235::u236::u237::u238::u239::u240::u241::u242::u243::u244::u245::u246::u247::u248::u249::u250::u251::u252::u253::u254::u255::u256::u257::u258::u259::u260::u261::u262::u263::u264::u265::u266::u267::u268::u269::u270::u271::u272::u273::u274::u275::u276::u277::u278::u279::u280::u281::u282::u283::u284::u285::u286::u287::u288::u289::u290::u291::u292::u293::u294::u295::u296::u297::u298::u299::u300::u301::u302::u303::u304::u305::u306::u307::u308::u309::u310::u311::u312::u313::u314::u315::u316::u317::u318::u319::u320::u321::v322::v323::v324::v325::v326::v327::v328::v329::v330::v331::v332::v333::v334::u335::u336::u337::u338::u339::u340::u341::u342::u343::u344::u345::u346::u347::u348::u349::u350::u351::u352::u353::u354::u355::u356::u357::u358::u359::u360::u361::u362::u363::u364::u365::u366::u367::u368::u369::u370::u371::u372::u373::u374::u375::u376::u377::u378::u379::u380::u381::u382::u383::u384::u385::u386::u387::u388::u389::u390::u391::u392::u393::u394::u395::u396::u397::u398::u399::u400::u401::u402::u403::u404::u405::u406::u407::u408::u409::u410::u411::u412::u413::u414::u415::u416::u417::u418::u419::u420::u421::u422::u423::u424::u425::u426::u427::u428::u429::u430::u431::u432::u433::u434::u435::u436::u437::u438::u439::u440::u441::u442::u443::u444::u445::u446::u447::u448::u449::u450::u451::u452::u453::u454::u455::u456::u457::u458::u459::u460::u461::u462::u463::u464::u465::u466::u467::u468::u469::u470::u471::u472::u473::u474::u475::u476::u477::u478::u479::u480::u481::u482::u483::u484::u485::u486::u487::u488::u489::u490::u491::u492::u493::u494::u495::u496::u497::u498::u499::u500::u501::u502::u503::u504::u505::u506::u507::u508::u509::u510::u511::u512::u513::u514::u515::u516::u517::u518::u519::u520::u521::u522::u523::u524::u525::u526::u527::u528::u529::u530::u531::u532::u533::u534::u535::u536::u537::u538::u539::u540::u541::u542::u543::u544::u545::u546::u547::u548::u549::u550::u551::u552::u553::u554::u555::u556::u557::u558::u559::u560::u561::u562::u563::u564::u565::u566::u567::u568::u569::u570::u571::u572::u573::u574::u575::u576::u577::[]), []⟩ W') :
    Code.wp Tryz.prog (cl (cr (cr (cr (cr (ct (cr (ce (cr (ce (cr (ce (cr (ce (cr (ce (cr (ce (cr (ce (cr (ce (cr (ce (cr (ce (cr (ce (cr (cb (cr (cr (cr (cr (cB Tryz.f19))))))))))))))))))))))))))))))))))) (Exit.then Kx (Exit.inBlock 0 (bodyPost Tryz.prog Tryz.f19 R))) ⟨List.toArray (u0::u1::.int .i64 0::u3::.pointer (some ⟨x, 0, none⟩)::u5::u6::u7::u8::u9::u10::u11::u12::u13::u14::u15::u16::u17::.pointer (some ⟨ei, 0, none⟩)::u19::u20::u21::u22::u23::u24::u25::u26::u27::u28::u29::u30::u31::u32::u33::u34::u35::u36::u37::u38::u39::u40::u41::u42::u43::u44::u45::u46::u47::u48::u49::u50::u51::u52::u53::u54::u55::u56::u57::u58::u59::u60::u61::u62::u63::u64::u65::u66::u67::u68::u69::u70::u71::u72::u73::u74::u75::u76::u77::u78::u79::u80::u81::u82::u83::u84::u85::u86::u87::u88::u89::u90::u91::u92::u93::u94::u95::u96::u97::u98::u99::u100::u101::u102::u103::u104::u105::u106::u107::u108::u109::u110::u111::u112::u113::u114::u115::u116::u117::u118::u119::u120::u121::u122::u123::u124::u125::u126::u127::u128::u129::u130::u131::u132::u133::u134::u135::u136::u137::u138::u139::u140::u141::u142::u143::u144::u145::u146::u147::u148::u149::u150::u151::u152::u153::u154::u155::u156::u157::u158::u159::u160::u161::u162::u163::u164::u165::u166::u167::u168::u169::u170::u171::u172::u173::u174::u175::u176::u177::u178::u179::u180::u181::u182::u183::u184::u185::u186::u187::u188::u189::u190::u191::u192::u193::u194::u195::u196::u197::u198::u199::u200::u201::u202::u203::u204::u205::u206::u207::u208::u209::u210::u211::u212::u213::u214::u215::u216::u217::u218::u219::u220::u221::u222::u223::u224::u225::u226::u227::u228::u229::u230::u231::u232::u233::u234::u235::u236::u237::u238::u239::u240::u241::u242::u243::u244::u245::u246::u247::u248::u249::u250::u251::u252::u253::u254::u255::u256::u257::u258::u259::u260::u261::u262::u263::u264::u265::u266::u267::u268::u269::u270::u271::u272::u273::u274::u275::u276::u277::u278::u279::u280::u281::u282::u283::u284::u285::u286::u287::u288::u289::u290::u291::u292::u293::u294::u295::u296::u297::u298::u299::u300::u301::u302::u303::u304::u305::u306::u307::u308::u309::u310::u311::u312::u313::u314::u315::u316::u317::u318::u319::u320::u321::u322::u323::u324::u325::u326::u327::u328::u329::u330::u331::u332::u333::u334::u335::u336::u337::u338::u339::u340::u341::u342::u343::u344::u345::u346::u347::u348::u349::u350::u351::u352::u353::u354::u355::u356::u357::u358::u359::u360::u361::u362::u363::u364::u365::u366::u367::u368::u369::u370::u371::u372::u373::u374::u375::u376::u377::u378::u379::u380::u381::u382::u383::u384::u385::u386::u387::u388::u389::u390::u391::u392::u393::u394::u395::u396::u397::u398::u399::u400::u401::u402::u403::u404::u405::u406::u407::u408::u409::u410::u411::u412::u413::u414::u415::u416::u417::u418::u419::u420::u421::u422::u423::u424::u425::u426::u427::u428::u429::u430::u431::u432::u433::u434::u435::u436::u437::u438::u439::u440::u441::u442::u443::u444::u445::u446::u447::u448::u449::u450::u451::u452::u453::u454::u455::u456::u457::u458::u459::u460::u461::u462::u463::u464::u465::u466::u467::u468::u469::u470::u471::u472::u473::u474::u475::u476::u477::u478::u479::u480::u481::u482::u483::u484::u485::u486::u487::u488::u489::u490::u491::u492::u493::u494::u495::u496::u497::u498::u499::u500::u501::u502::u503::u504::u505::u506::u507::u508::u509::u510::u511::u512::u513::u514::u515::u516::u517::u518::u519::u520::u521::u522::u523::u524::u525::u526::u527::u528::u529::u530::u531::u532::u533::u534::u535::u536::u537::u538::u539::u540::u541::u542::u543::u544::u545::u546::u547::u548::u549::u550::u551::u552::u553::u554::u555::u556::u557::u558::u559::u560::u561::u562::u563::u564::u565::u566::u567::u568::u569::u570::u571::u572::u573::u574::u575::u576::u577::[]), []⟩ W0 := by
  have HK := Aside0.mk hK
  have HLS := Aside0.mk hL
  have HX := Aside0.mk hx
  have HI0 := Aside0.mk hI
  have HE0 := Aside0.mk he0
  have HN0 := Aside0.mk hI0
  have H0 := Aside0.mk h0
  have HIN := Aside0.mk HIX
  have HEC := Aside0.mk HEN
  have HBS := Aside0.mk hbs
  have HOF := Aside0.mk hoff
  clear hK hL hx hI hI0 he0 h0 HIX HEN hbs hoff
  dsimp only [cl, cr, ct, ce, cb, cB, Tryz.f19]
  go_wp2
  go_loopg [19] ms.length (fun kq v19 wr => ∃ i : Nat, v19 = .int .i64 (i : Int) ∧ i ≤ ms.length ∧ Aside0 (kq = ms.length - i ∧ Below Wx.heap.size Wx wr ∧ Lib.IsBuffer 47 5 Wx.heap.size Wx.heap.size (Lib.byteCells ((ms.take i).flatMap bs)) wr ∧ wr.heap[ei]? = some (.cells #[.iface 50 (.pointer (some ⟨Wx.heap.size, 0, none⟩)), .slice none 0 0, ord, .int .i64 (((off + k * i : Nat) : Int))] 65 (0, 0)) ∧ (i = 0 → wr.heap[Wx.heap.size]? = some (.cells #[.slice none 0 0, .int .i64 0, .int .i8 0] 47 (0, 0)))))
  case atStart => exact ⟨0, rfl, by omega, ⟨rfl, H0.out, by simpa [Lib.byteCells] using HI0.out, by simpa using HE0.out, fun _ => HN0.out⟩⟩
  case round =>
    obtain ⟨i, rfl, hi, HA⟩ := hrel
    have b0 : wr.cell? ⟨x, 0, none⟩ = some (.iface 127 (.pointer (some ⟨L, 0, none⟩))) := pw_cell_below HA.out.2.1 ((cell_of_row Wx x 0 _ 73 (0, 0) HX.out).trans rfl)
    have b1 : wr.cell? ⟨x, 1, none⟩ = some (.string ⟨#[91, c]⟩) := pw_cell_below HA.out.2.1 ((cell_of_row Wx x 1 _ 73 (0, 0) HX.out).trans rfl)
    have HLN := Aside0.mk (len_calls wr L ⟨#[c]⟩ ⟨#[91, c]⟩ A cap (ms.map va) (HLS.out.below HA.out.2.1))
    by_cases hlt : i < ms.length
    · obtain ⟨m, hm⟩ : ∃ m, ms[i]? = some m := ⟨ms[i], List.getElem?_eq_getElem hlt⟩
      have hmm : m ∈ ms := List.mem_of_getElem? hm
      have HM := Aside0.mk hm
      have HMM := Aside0.mk hmm
      have hd : decide ((i : Int) < ((ms.map va).length : Int)) = true := by simpa using hlt
      have hwi : IntKind.i64.wrap ((i : Int) + 1) = ((i + 1 : Nat) : Int) := by rw [IntKind.wrap_i64]; omega
      clear hm hmm
      go_wp2_with (first
        | (go_at_call 35; refine HLN.out.mono ?_; rintro e1 w2 ⟨rfl, hb⟩; have HB2 := Aside0.mk hb; have HB2x := Aside0.mk (below_step HA.out.2.1 hb); have g0 := pw_cell_below hb b0; have g1 := pw_cell_below hb b1; clear hb)
        | (go_at_call 39; refine (HIN.out w2 (HLS.out.below HB2x.out) i m HM.out).mono ?_; rintro e1 w3 ⟨rfl, hb⟩; have HB3 := Aside0.mk (below_step HB2.out hb); have HB3x := Aside0.mk (below_step HB2x.out hb); clear hb))
      have he3 := up_heap2 HB3.out HA.out.2.2.2.1
      have hne : ei ≠ Wx.heap.size := by omega
      have hcl : (Lib.byteCells (bs m)).length = k := by rw [Lib.byteCells_length, HBS.out]
      have hfl : (Lib.byteCells ((ms.take i).flatMap bs)).length = k * i := by rw [Lib.byteCells_length]; exact flat_len HBS.out ms i hi
      have hki : k * i ≤ 8 * 200 := Nat.mul_le_mul hk.2 (by omega)
      have hi3 := HA.out.2.2.1.old HB3.out
      have hWR : ∀ W1, Below w3.heap.size w3 W1 → ∀ a T, w3.heap.size ≤ a → W1.heap[a]? = some (.cells (Lib.byteCells (bs m)).toArray T (0, 0)) → Calls Tryz.prog 98 #[.pointer (some ⟨Wx.heap.size, 0, none⟩), .slice (some ⟨a, 0, none⟩) k k] W1 fun e w' => e = .returned (.tuple #[.int .i64 (k : Int), .nilIface]) ∧ Qin w3 Wx.heap.size (Lib.byteCells ((ms.take i).flatMap bs)) (Lib.byteCells (bs m)) w' := fun W1 hb a T ha hc => by
        have h := hw_in w3 Wx.heap.size _ hi3 (byte_one _) (Lib.byteCells (bs m)) (byte_one _) (by rw [hfl, hcl]; omega) W1 hb a T ha hc
        rw [hcl] at h
        exact h
      have HCALL := Aside0.mk (HEC.out m HMM.out w3 (off + k * i) (by have := HOF.out.2; omega) (by rw [Nat.add_mul_mod_self_left]; exact HOF.out.1) _ he3 (fun w' h => h.enc he3 hne) hWR)
      have HE3 := Aside0.mk he3
      have HI3 := Aside0.mk hi3
      clear he3 hi3 hWR hfl hcl
      refine HCALL.out.mono ?_
      rintro e1 w4 ⟨rfl, w1, hq, hw4⟩
      have HQ := Aside0.mk hq
      have hR : Aside0 (Below Wx.heap.size Wx w4 ∧ Lib.IsBuffer 47 5 Wx.heap.size Wx.heap.size (Lib.byteCells ((ms.take (i + 1)).flatMap bs)) w4 ∧ w4.heap[ei]? = some (.cells #[.iface 50 (.pointer (some ⟨Wx.heap.size, 0, none⟩)), .slice none 0 0, ord, .int .i64 (((off + k * (i + 1) : Nat) : Int))] 65 (0, 0))) := by
        subst hw4
        have h5 := hq.enc HE3.out hne
        refine ⟨⟨(HB3x.out.trans hq.2.1).setCell (by show Wx.heap.size ≤ ei; omega) _, ?_, ?_⟩⟩
        · rw [flat_step bs HM.out]
          exact isb_set hq.1 h5 hne
        · have h6 := heap_setCell_same w1 ei 3 _ 65 (.int .i64 (((off + k * i : Nat) : Int) + (k : Int))) h5
          rw [h6]
          have h7 : ((off + k * i : Nat) : Int) + (k : Int) = ((off + k * (i + 1) : Nat) : Int) := by rw [Nat.mul_add]; push_cast; omega
          rw [h7]
          rfl
      clear hq hw4
      go_wp2
      go_roundg (ms.length - (i + 1))
      case measure => have := HA.out.1; omega
      case rel => exact ⟨i + 1, by first | rfl | simp, hlt, ⟨rfl, hR.out.1, hR.out.2.1, hR.out.2.2, fun h => by omega⟩⟩
    · have hd : decide ((i : Int) < ((ms.map va).length : Int)) = false := by simpa using hlt
      have hie : i = ms.length := by omega
      subst hie
      go_wp2_with (first
        | (go_at_call 35; refine HLN.out.mono ?_; rintro e1 w2 ⟨rfl, hb⟩; have HB2 := Aside0.mk hb; clear hb))
      have hf := HA.out.2.2.1
      rw [List.take_length] at hf
      exact HK.out _ _ _ _ _ _ _ _ _ _ _ _ _ _ _ (below_step HA.out.2.1 HB2.out) (hf.old HB2.out) (fun h => up_heap2 HB2.out (HA.out.2.2.2.2 h)) (up_heap2 HB2.out HA.out.2.2.2.1)


end Go.Proofs.YtcnhpiodomknfaaGreatDoor.MFnWrTurned
