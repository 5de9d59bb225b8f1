/-
  DERIVED: THE SHELF's CONTRACTS AT THIS DUMP, IN PLAIN WORDS (tools/lay-plain.mjs out of 'TrydShelf.lean', which tools/lay-shelf.mjs wrote): THE SAME DECLARATIONS UNDER THE SAME NAMES: 'import', 'namespace', 'open', 'def', 'theorem' AND NOTHING ELSE: no command of the shelf's: FOR A HAND-IN. Each laying: the table of numbers ('.._ren') and one theorem, a field a fact of the dump's own or the kernel's comparison; each contract: ONE APPLICATION.
-/
import Derived.Shelf.LaysM
import Derived.Shelf.Strconv.Clone
import Derived.Shelf.Strconv.SyntaxError
import Derived.Shelf.LaysC
import Derived.Shelf.Strconv.ToError
import Derived.Shelf.Strconv.RangeError
import Derived.Shelf.Strconv.ToErrorRange
import Derived.Test.YtngbhojjjkdofaaDoorProg
namespace Go.Proofs
open Go.Shelf
def Tryd.laysM316_ren : Go.Shelf.Ren := ⟨fun | 316 => 37 | n => n, fun | 9 => 9 | 3 => 3 | 4 => 4 | 37 => 27 | 0 => 0 | 127 => 73 | 5 => 5 | n => n, fun | n => n⟩
theorem Tryd.laysM316 : Go.Proofs.LaysM.n316 Tryd.prog Tryd.laysM316_ren := {
  mixed := by kernel_rfl
  f316 := Tryd.func37.trans (congrArg some (by kernel_rfl))
  t0 := Tryd.underlying0
  a0 := Tryd.isAgg0
  z0 := Tryd.sizeOf0
  v0 := Tryd.zeroValue0
  t3 := Tryd.underlying3
  a3 := Tryd.isAgg3
  z3 := Tryd.sizeOf3
  v3 := Tryd.zeroValue3
  t4 := Tryd.underlying4
  a4 := Tryd.isAgg4
  z4 := Tryd.sizeOf4
  v4 := Tryd.zeroValue4
  t9 := Tryd.underlying9
  a9 := Tryd.isAgg9
  z9 := Tryd.sizeOf9
  v9 := Tryd.zeroValue9
  t37 := Tryd.underlying27
  a37 := Tryd.isAgg27
  z37 := Tryd.sizeOf27
  v37 := Tryd.zeroValue27
  t127 := Tryd.underlying73
  a127 := Tryd.isAgg73
  z127 := Tryd.sizeOf73
  v127 := Tryd.zeroValue73
  t5 := Tryd.underlying5
  a5 := Tryd.isAgg5
  z5 := Tryd.sizeOf5
  v5 := Tryd.zeroValue5
  i0 := by kernel_rfl
  i3 := by kernel_rfl
  i4 := by kernel_rfl
  i5 := by kernel_rfl
  i9 := by kernel_rfl
  i37 := by kernel_rfl
  i127 := by kernel_rfl }
open Go.RowKit in
/-- internal/stringslite.Clone (what strings.Clone calls): "Clone returns a fresh copy of s.": THE SAME BYTES. Of what was there nothing has turned (a new row is laid, and frozen, where s is not empty). (LAID: no walk: one application.) -/
theorem Tryd.stringslite_Clone (s : ByteArray) (w : World) (hlim : s.size ≤ 281474976710656) :
    Calls Tryd.prog 37 #[.string s] w fun e w' => e = .returned (.string s) ∧ Below w.heap.size w w' := Any.stringslite_Clone Tryd.laysM316 s w hlim
def Tryd.laysM279_ren : Go.Shelf.Ren := ⟨fun | 279 => 33 | 316 => 37 | n => n, fun | 9 => 9 | 168 => 66 | 75 => 37 | 210 => 72 | 3 => 3 | 4 => 4 | 37 => 27 | 0 => 0 | 127 => 73 | 80 => 75 | 5 => 5 | n => n, fun | 15 => 3 | n => n⟩
theorem Tryd.laysM279 : Go.Proofs.LaysM.n279 Tryd.prog Tryd.laysM279_ren := {
  mixed := by kernel_rfl
  f279 := Tryd.func33.trans (congrArg some (by kernel_rfl))
  f316 := Tryd.func37.trans (congrArg some (by kernel_rfl))
  t0 := Tryd.underlying0
  a0 := Tryd.isAgg0
  z0 := Tryd.sizeOf0
  v0 := Tryd.zeroValue0
  t3 := Tryd.underlying3
  a3 := Tryd.isAgg3
  z3 := Tryd.sizeOf3
  v3 := Tryd.zeroValue3
  t4 := Tryd.underlying4
  a4 := Tryd.isAgg4
  z4 := Tryd.sizeOf4
  v4 := Tryd.zeroValue4
  t9 := Tryd.underlying9
  a9 := Tryd.isAgg9
  z9 := Tryd.sizeOf9
  v9 := Tryd.zeroValue9
  t37 := Tryd.underlying27
  a37 := Tryd.isAgg27
  z37 := Tryd.sizeOf27
  v37 := Tryd.zeroValue27
  t75 := Tryd.underlying37
  a75 := Tryd.isAgg37
  z75 := Tryd.sizeOf37
  v75 := Tryd.zeroValue37
  t127 := Tryd.underlying73
  a127 := Tryd.isAgg73
  z127 := Tryd.sizeOf73
  v127 := Tryd.zeroValue73
  t168 := Tryd.underlying66
  a168 := Tryd.isAgg66
  z168 := Tryd.sizeOf66
  v168 := Tryd.zeroValue66
  t210 := Tryd.underlying72
  a210 := Tryd.isAgg72
  z210 := Tryd.sizeOf72
  v210 := Tryd.zeroValue72
  g15 := by kernel_rfl
  t5 := Tryd.underlying5
  a5 := Tryd.isAgg5
  z5 := Tryd.sizeOf5
  v5 := Tryd.zeroValue5
  t80 := Tryd.underlying75
  a80 := Tryd.isAgg75
  z80 := Tryd.sizeOf75
  v80 := Tryd.zeroValue75
  i0 := by kernel_rfl
  i3 := by kernel_rfl
  i4 := by kernel_rfl
  i5 := by kernel_rfl
  i9 := by kernel_rfl
  i37 := by kernel_rfl
  i75 := by kernel_rfl
  i80 := by kernel_rfl
  i127 := by kernel_rfl
  i168 := by kernel_rfl
  i210 := by kernel_rfl
  m15 := by kernel_rfl }
open Go.RowKit in
/-- strconv.syntaxError: '&NumError{fn, stringslite.Clone(str), ErrSyntax}': A POINTER TO A NEW BLOCK that holds fn, str's bytes, and what the variable ErrSyntax holds. Of what was there nothing has turned. (LAID: no walk: one application.) -/
theorem Tryd.strconv_syntaxError (fn s : ByteArray) (ev : Value) (w : World) (hlim : s.size ≤ 281474976710656) (hv : w.cell? ⟨3, 0, none⟩ = some ev) (hev : ev = .nilIface ∨ ∃ te pe, ev = .iface te pe) :
    Calls Tryd.prog 33 #[.string fn, .string s] w fun e w' => ∃ N, e = .returned (.pointer (some ⟨N, 0, none⟩)) ∧ w.heap.size ≤ N ∧ w'.heap[N]? = some (.cells #[.string fn, .string s, ev] 72 (0, 0)) ∧ Below w.heap.size w w' := Any.strconv_syntaxError Tryd.laysM279 fn s ev w hlim hv hev
def Tryd.laysC245_ren : Go.Shelf.Ren := ⟨fun | 245 => 28 | 279 => 33 | 280 => 34 | 281 => 35 | 282 => 36 | 316 => 37 | 171 => 38 | 205 => 20 | 243 => 39 | 246 => 40 | 283 => 16 | 284 => 17 | 285 => 18 | 286 => 19 | 129 => 23 | 317 => 22 | 318 => 24 | 319 => 25 | 320 => 26 | 337 => 29 | 338 => 30 | n => n, fun | 9 => 9 | 3 => 3 | 75 => 37 | 167 => 64 | 4 => 4 | 168 => 66 | 210 => 72 | 37 => 27 | 0 => 0 | 127 => 73 | 145 => 61 | 143 => 59 | 2 => 2 | 171 => 43 | 53 => 29 | 5 => 5 | 173 => 46 | 212 => 53 | 51 => 54 | 20 => 20 | 213 => 55 | 46 => 57 | 232 => 69 | 233 => 70 | 80 => 75 | n => n, fun | 15 => 3 | 16 => 4 | 17 => 0 | 18 => 1 | 19 => 2 | n => n⟩
theorem Tryd.laysC245 : Go.Proofs.LaysC.n245 Tryd.prog Tryd.laysC245_ren := {
  mixed := by kernel_rfl
  f129 := Tryd.func23.trans (congrArg some (by kernel_rfl))
  f171 := Tryd.func38.trans (congrArg some (by kernel_rfl))
  f205 := Tryd.func20.trans (congrArg some (by kernel_rfl))
  f243 := Tryd.func39.trans (congrArg some (by kernel_rfl))
  f245 := Tryd.func28.trans (congrArg some (by kernel_rfl))
  f246 := Tryd.func40.trans (congrArg some (by kernel_rfl))
  f279 := Tryd.func33.trans (congrArg some (by kernel_rfl))
  f280 := Tryd.func34.trans (congrArg some (by kernel_rfl))
  f281 := Tryd.func35.trans (congrArg some (by kernel_rfl))
  f282 := Tryd.func36.trans (congrArg some (by kernel_rfl))
  f283 := Tryd.func16.trans (congrArg some (by kernel_rfl))
  f284 := Tryd.func17.trans (congrArg some (by kernel_rfl))
  f285 := Tryd.func18.trans (congrArg some (by kernel_rfl))
  f286 := Tryd.func19.trans (congrArg some (by kernel_rfl))
  f316 := Tryd.func37.trans (congrArg some (by kernel_rfl))
  f317 := Tryd.func22.trans (congrArg some (by kernel_rfl))
  f318 := Tryd.func24.trans (congrArg some (by kernel_rfl))
  f319 := Tryd.func25.trans (congrArg some (by kernel_rfl))
  f320 := Tryd.func26.trans (congrArg some (by kernel_rfl))
  f337 := Tryd.func29.trans (congrArg some (by kernel_rfl))
  f338 := Tryd.func30.trans (congrArg some (by kernel_rfl))
  t0 := Tryd.underlying0
  a0 := Tryd.isAgg0
  z0 := Tryd.sizeOf0
  v0 := Tryd.zeroValue0
  t2 := Tryd.underlying2
  a2 := Tryd.isAgg2
  z2 := Tryd.sizeOf2
  v2 := Tryd.zeroValue2
  t3 := Tryd.underlying3
  a3 := Tryd.isAgg3
  z3 := Tryd.sizeOf3
  v3 := Tryd.zeroValue3
  t4 := Tryd.underlying4
  a4 := Tryd.isAgg4
  z4 := Tryd.sizeOf4
  v4 := Tryd.zeroValue4
  t5 := Tryd.underlying5
  a5 := Tryd.isAgg5
  z5 := Tryd.sizeOf5
  v5 := Tryd.zeroValue5
  t9 := Tryd.underlying9
  a9 := Tryd.isAgg9
  z9 := Tryd.sizeOf9
  v9 := Tryd.zeroValue9
  t20 := Tryd.underlying20
  a20 := Tryd.isAgg20
  z20 := Tryd.sizeOf20
  v20 := Tryd.zeroValue20
  t37 := Tryd.underlying27
  a37 := Tryd.isAgg27
  z37 := Tryd.sizeOf27
  v37 := Tryd.zeroValue27
  t46 := Tryd.underlying57
  a46 := Tryd.isAgg57
  z46 := Tryd.sizeOf57
  v46 := Tryd.zeroValue57
  t51 := Tryd.underlying54
  a51 := Tryd.isAgg54
  z51 := Tryd.sizeOf54
  v51 := Tryd.zeroValue54
  t53 := Tryd.underlying29
  a53 := Tryd.isAgg29
  z53 := Tryd.sizeOf29
  v53 := Tryd.zeroValue29
  t75 := Tryd.underlying37
  a75 := Tryd.isAgg37
  z75 := Tryd.sizeOf37
  v75 := Tryd.zeroValue37
  t127 := Tryd.underlying73
  a127 := Tryd.isAgg73
  z127 := Tryd.sizeOf73
  v127 := Tryd.zeroValue73
  t143 := Tryd.underlying59
  a143 := Tryd.isAgg59
  z143 := Tryd.sizeOf59
  v143 := Tryd.zeroValue59
  t145 := Tryd.underlying61
  a145 := Tryd.isAgg61
  z145 := Tryd.sizeOf61
  v145 := Tryd.zeroValue61
  t167 := Tryd.underlying64
  a167 := Tryd.isAgg64
  z167 := Tryd.sizeOf64
  v167 := Tryd.zeroValue64
  t168 := Tryd.underlying66
  a168 := Tryd.isAgg66
  z168 := Tryd.sizeOf66
  v168 := Tryd.zeroValue66
  t171 := Tryd.underlying43
  a171 := Tryd.isAgg43
  z171 := Tryd.sizeOf43
  v171 := Tryd.zeroValue43
  t173 := Tryd.underlying46
  a173 := Tryd.isAgg46
  z173 := Tryd.sizeOf46
  v173 := Tryd.zeroValue46
  t210 := Tryd.underlying72
  a210 := Tryd.isAgg72
  z210 := Tryd.sizeOf72
  v210 := Tryd.zeroValue72
  t212 := Tryd.underlying53
  a212 := Tryd.isAgg53
  z212 := Tryd.sizeOf53
  v212 := Tryd.zeroValue53
  t213 := Tryd.underlying55
  a213 := Tryd.isAgg55
  z213 := Tryd.sizeOf55
  t232 := Tryd.underlying69
  a232 := Tryd.isAgg69
  z232 := Tryd.sizeOf69
  v232 := Tryd.zeroValue69
  t233 := Tryd.underlying70
  a233 := Tryd.isAgg70
  z233 := Tryd.sizeOf70
  v233 := Tryd.zeroValue70
  g15 := by kernel_rfl
  g16 := by kernel_rfl
  g17 := by kernel_rfl
  g18 := by kernel_rfl
  g19 := by kernel_rfl
  t80 := Tryd.underlying75
  a80 := Tryd.isAgg75
  z80 := Tryd.sizeOf75
  v80 := Tryd.zeroValue75
  i0 := by kernel_rfl
  i2 := by kernel_rfl
  i3 := by kernel_rfl
  i4 := by kernel_rfl
  i5 := by kernel_rfl
  i9 := by kernel_rfl
  i20 := by kernel_rfl
  i37 := by kernel_rfl
  i46 := by kernel_rfl
  i51 := by kernel_rfl
  i53 := by kernel_rfl
  i75 := by kernel_rfl
  i80 := by kernel_rfl
  i127 := by kernel_rfl
  i143 := by kernel_rfl
  i145 := by kernel_rfl
  i167 := by kernel_rfl
  i168 := by kernel_rfl
  i171 := by kernel_rfl
  i173 := by kernel_rfl
  i210 := by kernel_rfl
  i212 := by kernel_rfl
  i232 := by kernel_rfl
  i233 := by kernel_rfl
  m15 := by kernel_rfl
  m16 := by kernel_rfl
  m17 := by kernel_rfl
  m18 := by kernel_rfl
  m19 := by kernel_rfl
  c0 := by kernel_rfl
  c2 := by kernel_rfl
  c3 := by kernel_rfl
  c4 := by kernel_rfl
  c5 := by kernel_rfl
  c9 := by kernel_rfl
  c20 := by kernel_rfl
  c37 := by kernel_rfl
  c46 := by kernel_rfl
  c51 := by kernel_rfl
  c53 := by kernel_rfl
  c75 := by kernel_rfl
  c80 := by kernel_rfl
  c127 := by kernel_rfl
  c143 := by kernel_rfl
  c145 := by kernel_rfl
  c167 := by kernel_rfl
  c168 := by kernel_rfl
  c171 := by kernel_rfl
  c173 := by kernel_rfl
  c210 := by kernel_rfl
  c212 := by kernel_rfl
  c213 := by kernel_rfl
  c232 := by kernel_rfl
  c233 := by kernel_rfl }
open Go.RowKit in
/-- strconv.toError, at the inner package's ErrSyntax: 'syntaxError(fn, s)' as an error: A *NumError IN A NEW BLOCK. (LAID: no walk: one application.) -/
theorem Tryd.strconv_toError_syntax (fn s : ByteArray) (base bits : Int) (ev : Value) (w : World) (hlim : s.size ≤ 281474976710656) (hv : w.cell? ⟨3, 0, none⟩ = some ev) (hev : ev = .nilIface ∨ ∃ te pe, ev = .iface te pe) :
    Calls Tryd.prog 28 #[.string fn, .string s, .int .i64 base, .int .i64 bits, .iface 64 (.int .i64 2)] w fun e w' => ∃ N, e = .returned (.iface 66 (.pointer (some ⟨N, 0, none⟩))) ∧ w.heap.size ≤ N ∧ w'.heap[N]? = some (.cells #[.string fn, .string s, ev] 72 (0, 0)) ∧ Below w.heap.size w w' := Any.strconv_toError_syntax Tryd.laysC245 fn s base bits ev w hlim hv hev
def Tryd.laysM280_ren : Go.Shelf.Ren := ⟨fun | 280 => 34 | 316 => 37 | n => n, fun | 9 => 9 | 168 => 66 | 75 => 37 | 210 => 72 | 3 => 3 | 4 => 4 | 37 => 27 | 0 => 0 | 127 => 73 | 80 => 75 | 5 => 5 | n => n, fun | 16 => 4 | n => n⟩
theorem Tryd.laysM280 : Go.Proofs.LaysM.n280 Tryd.prog Tryd.laysM280_ren := {
  mixed := by kernel_rfl
  f280 := Tryd.func34.trans (congrArg some (by kernel_rfl))
  f316 := Tryd.func37.trans (congrArg some (by kernel_rfl))
  t0 := Tryd.underlying0
  a0 := Tryd.isAgg0
  z0 := Tryd.sizeOf0
  v0 := Tryd.zeroValue0
  t3 := Tryd.underlying3
  a3 := Tryd.isAgg3
  z3 := Tryd.sizeOf3
  v3 := Tryd.zeroValue3
  t4 := Tryd.underlying4
  a4 := Tryd.isAgg4
  z4 := Tryd.sizeOf4
  v4 := Tryd.zeroValue4
  t9 := Tryd.underlying9
  a9 := Tryd.isAgg9
  z9 := Tryd.sizeOf9
  v9 := Tryd.zeroValue9
  t37 := Tryd.underlying27
  a37 := Tryd.isAgg27
  z37 := Tryd.sizeOf27
  v37 := Tryd.zeroValue27
  t75 := Tryd.underlying37
  a75 := Tryd.isAgg37
  z75 := Tryd.sizeOf37
  v75 := Tryd.zeroValue37
  t127 := Tryd.underlying73
  a127 := Tryd.isAgg73
  z127 := Tryd.sizeOf73
  v127 := Tryd.zeroValue73
  t168 := Tryd.underlying66
  a168 := Tryd.isAgg66
  z168 := Tryd.sizeOf66
  v168 := Tryd.zeroValue66
  t210 := Tryd.underlying72
  a210 := Tryd.isAgg72
  z210 := Tryd.sizeOf72
  v210 := Tryd.zeroValue72
  g16 := by kernel_rfl
  t5 := Tryd.underlying5
  a5 := Tryd.isAgg5
  z5 := Tryd.sizeOf5
  v5 := Tryd.zeroValue5
  t80 := Tryd.underlying75
  a80 := Tryd.isAgg75
  z80 := Tryd.sizeOf75
  v80 := Tryd.zeroValue75
  i0 := by kernel_rfl
  i3 := by kernel_rfl
  i4 := by kernel_rfl
  i5 := by kernel_rfl
  i9 := by kernel_rfl
  i37 := by kernel_rfl
  i75 := by kernel_rfl
  i80 := by kernel_rfl
  i127 := by kernel_rfl
  i168 := by kernel_rfl
  i210 := by kernel_rfl
  m16 := by kernel_rfl }
open Go.RowKit in
/-- strconv.rangeError: '&NumError{fn, stringslite.Clone(str), ErrRange}': A POINTER TO A NEW BLOCK that holds fn, str's bytes, and what the variable ErrRange holds. Of what was there nothing has turned. (LAID: no walk: one application.) -/
theorem Tryd.strconv_rangeError (fn s : ByteArray) (ev : Value) (w : World) (hlim : s.size ≤ 281474976710656) (hv : w.cell? ⟨4, 0, none⟩ = some ev) (hev : ev = .nilIface ∨ ∃ te pe, ev = .iface te pe) :
    Calls Tryd.prog 34 #[.string fn, .string s] w fun e w' => ∃ N, e = .returned (.pointer (some ⟨N, 0, none⟩)) ∧ w.heap.size ≤ N ∧ w'.heap[N]? = some (.cells #[.string fn, .string s, ev] 72 (0, 0)) ∧ Below w.heap.size w w' := Any.strconv_rangeError Tryd.laysM280 fn s ev w hlim hv hev
open Go.RowKit in
/-- strconv.toError, at the inner package's ErrRange: 'rangeError(fn, s)' as an error: A *NumError IN A NEW BLOCK. (LAID: no walk: one application.) -/
theorem Tryd.strconv_toError_range (fn s : ByteArray) (base bits : Int) (ev : Value) (w : World) (hlim : s.size ≤ 281474976710656) (hv : w.cell? ⟨4, 0, none⟩ = some ev) (hev : ev = .nilIface ∨ ∃ te pe, ev = .iface te pe) :
    Calls Tryd.prog 28 #[.string fn, .string s, .int .i64 base, .int .i64 bits, .iface 64 (.int .i64 1)] w fun e w' => ∃ N, e = .returned (.iface 66 (.pointer (some ⟨N, 0, none⟩))) ∧ w.heap.size ≤ N ∧ w'.heap[N]? = some (.cells #[.string fn, .string s, ev] 72 (0, 0)) ∧ Below w.heap.size w w' := Any.strconv_toError_range Tryd.laysC245 fn s base bits ev w hlim hv hev
end Go.Proofs
