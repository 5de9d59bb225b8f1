/-
  DERIVED: THE SHELF's CONTRACTS AT THIS DUMP, IN PLAIN WORDS (tools/lay-plain.mjs out of 'TryzShelf.lean', which tools/lay-shelf.mjs wrote): THE SAME DECLARATIONS UNDER THE SAME NAMES: 'import', 'namespace', 'open', 'def', 'theorem' AND NOTHING ELSE: no command of the shelf's: FOR A HAND-IN. Each laying: the table of numbers ('.._ren') and one theorem, a field a fact of the dump's own or the kernel's comparison; each contract: ONE APPLICATION.
-/
import Derived.Shelf.Small.Utf8
import Derived.Shelf.Strconv.Itoa0
import Derived.Shelf.Strconv.Itoa1
import Derived.Shelf.LaysM
import Derived.Shelf.Strconv.Itoa2
import Derived.Shelf.Strconv.Itoa3
import Derived.Shelf.Strconv.Itoa4
import Derived.Shelf.Bits.Mul64
import Derived.Shelf.Unicode.DecodeSlow
import Derived.Shelf.Unicode.DecodeAny
import Derived.Test.YtjahkodciflgdaaGreatDoorProg
namespace Go.Proofs
open Go.Shelf
def Tryz.lays119_ren : Go.Shelf.Ren := ⟨fun | 119 => 124 | n => n, fun | 21 => 21 | 4 => 4 | n => n, fun | n => n⟩
theorem Tryz.lays119 : Go.Proofs.Lays.n119 Tryz.prog Tryz.lays119_ren := {
  mixed := by kernel_rfl
  f119 := Tryz.func124.trans (congrArg some (by kernel_rfl))
  t4 := Tryz.underlying4
  a4 := Tryz.isAgg4
  z4 := Tryz.sizeOf4
  v4 := Tryz.zeroValue4
  t21 := Tryz.underlying21
  a21 := Tryz.isAgg21
  z21 := Tryz.sizeOf21
  v21 := Tryz.zeroValue21 }
/-- utf8.ValidRune: "ValidRune reports whether r can be legally encoded as UTF-8. Code points that are out of range or a surrogate half are illegal.": IT RETURNS 'Lib.validRune r'; the world is as it was. (LAID: no walk: one application.) -/
theorem Tryz.utf8_ValidRune (r : Int) (w : World) :
    Calls Tryz.prog 124 #[.int .i32 r] w fun e w' => e = .returned (.bool (Lib.validRune r)) ∧ w' = w := Any.utf8_ValidRune Tryz.lays119 r w
def Tryz.lays129_ren : Go.Shelf.Ren := ⟨fun | 129 => 22 | n => n, fun | 53 => 22 | 3 => 3 | 4 => 4 | 46 => 24 | 5 => 5 | 9 => 9 | n => n, fun | n => n⟩
theorem Tryz.lays129 : Go.Proofs.Lays.n129 Tryz.prog Tryz.lays129_ren := {
  mixed := by kernel_rfl
  f129 := Tryz.func22.trans (congrArg some (by kernel_rfl))
  t3 := Tryz.underlying3
  a3 := Tryz.isAgg3
  z3 := Tryz.sizeOf3
  v3 := Tryz.zeroValue3
  t4 := Tryz.underlying4
  a4 := Tryz.isAgg4
  z4 := Tryz.sizeOf4
  v4 := Tryz.zeroValue4
  t5 := Tryz.underlying5
  a5 := Tryz.isAgg5
  z5 := Tryz.sizeOf5
  v5 := Tryz.zeroValue5
  t9 := Tryz.underlying9
  a9 := Tryz.isAgg9
  z9 := Tryz.sizeOf9
  v9 := Tryz.zeroValue9
  t46 := Tryz.underlying24
  a46 := Tryz.isAgg24
  z46 := Tryz.sizeOf24
  v46 := Tryz.zeroValue24
  t53 := Tryz.underlying22
  a53 := Tryz.isAgg22
  z53 := Tryz.sizeOf22
  v53 := Tryz.zeroValue22 }
/-- bits.Len64: "Len64 returns the minimum number of bits required to represent x; the result is 0 for x == 0.": IT RETURNS 'Lib.bitLen x'; the world is as it was. ('h0', 'h1': x is a uint64.) (LAID: no walk: one application.) -/
theorem Tryz.bits_Len64 (x : Int) (w : World) (h0 : 0 ≤ x) (h1 : x ≤ 18446744073709551615) :
    Calls Tryz.prog 22 #[.int .u64 x] w fun e w' => e = .returned (.int .i64 (Lib.bitLen x.toNat)) ∧ w' = w := Any.bits_Len64 Tryz.lays129 x w h0 h1
def Tryz.lays317_ren : Go.Shelf.Ren := ⟨fun | 317 => 21 | n => n, fun | 3 => 3 | 46 => 24 | n => n, fun | n => n⟩
theorem Tryz.lays317 : Go.Proofs.Lays.n317 Tryz.prog Tryz.lays317_ren := {
  mixed := by kernel_rfl
  f317 := Tryz.func21.trans (congrArg some (by kernel_rfl))
  t3 := Tryz.underlying3
  a3 := Tryz.isAgg3
  z3 := Tryz.sizeOf3
  v3 := Tryz.zeroValue3
  t46 := Tryz.underlying24
  a46 := Tryz.isAgg24
  z46 := Tryz.sizeOf24
  v46 := Tryz.zeroValue24 }
open Go.Lib in
/-- internal/strconv.log10Pow2: "log10Pow2(x) returns ⌊log₁₀ 2**x⌋ = ⌊x * log₁₀ 2⌋.": '(x * 78913) >> 18', at an x up to 64 (a length in bits). The world is as it was. (LAID: no walk: one application.) -/
theorem Tryz.internal_strconv_log10Pow2 (x : Nat) (h : x ≤ 64) (w : World) :
    Calls Tryz.prog 21 #[.int .i64 x] w fun e w' => e = .returned (.int .i64 (Lib.l10 x)) ∧ w' = w := Any.internal_strconv_log10Pow2 Tryz.lays317 x h w
def Tryz.lays318_ren : Go.Shelf.Ren := ⟨fun | 318 => 23 | n => n, fun | 3 => 3 | 4 => 4 | n => n, fun | n => n⟩
theorem Tryz.lays318 : Go.Proofs.Lays.n318 Tryz.prog Tryz.lays318_ren := {
  mixed := by kernel_rfl
  f318 := Tryz.func23.trans (congrArg some (by kernel_rfl))
  t3 := Tryz.underlying3
  a3 := Tryz.isAgg3
  z3 := Tryz.sizeOf3
  v3 := Tryz.zeroValue3
  t4 := Tryz.underlying4
  a4 := Tryz.isAgg4
  z4 := Tryz.sizeOf4
  v4 := Tryz.zeroValue4 }
open Go.Lib in
/-- internal/strconv.bool2: "bool2 converts b to an integer: 1 for true, 0 for false." The world is as it was. (LAID: no walk: one application.) -/
theorem Tryz.internal_strconv_bool2_int (b : Bool) (w : World) :
    Calls Tryz.prog 23 #[.bool b] w fun e w' => e = .returned (.int .i64 (if b then 1 else 0)) ∧ w' = w := Any.internal_strconv_bool2_int Tryz.lays318 b w
def Tryz.lays283_ren : Go.Shelf.Ren := ⟨fun | 283 => 13 | n => n, fun | 3 => 3 | 9 => 9 | 4 => 4 | n => n, fun | n => n⟩
theorem Tryz.lays283 : Go.Proofs.Lays.n283 Tryz.prog Tryz.lays283_ren := {
  mixed := by kernel_rfl
  f283 := Tryz.func13.trans (congrArg some (by kernel_rfl))
  t3 := Tryz.underlying3
  a3 := Tryz.isAgg3
  z3 := Tryz.sizeOf3
  v3 := Tryz.zeroValue3
  t4 := Tryz.underlying4
  a4 := Tryz.isAgg4
  z4 := Tryz.sizeOf4
  v4 := Tryz.zeroValue4
  t9 := Tryz.underlying9
  a9 := Tryz.isAgg9
  z9 := Tryz.sizeOf9
  v9 := Tryz.zeroValue9 }
open Go.Lib in
/-- internal/strconv.small: "small returns the string for an i with 0 <= i < nSmalls.": i's decimal numeral. The world is as it was. (LAID: no walk: one application.) -/
theorem Tryz.internal_strconv_small (i : Nat) (h : i < 100) (w : World) :
    Calls Tryz.prog 13 #[.int .i64 i] w fun e w' => e = .returned (.string ⟨(Lib.decDigits i).toArray⟩) ∧ w' = w := Any.internal_strconv_small Tryz.lays283 i h w
def Tryz.laysM284_ren : Go.Shelf.Ren := ⟨fun | 284 => 14 | 129 => 22 | 317 => 21 | 318 => 23 | n => n, fun | 53 => 22 | 3 => 3 | 212 => 60 | 0 => 0 | 4 => 4 | 46 => 24 | 5 => 5 | 9 => 9 | n => n, fun | 17 => 1 | n => n⟩
theorem Tryz.laysM284 : Go.Proofs.LaysM.n284 Tryz.prog Tryz.laysM284_ren := {
  mixed := by kernel_rfl
  f129 := Tryz.func22.trans (congrArg some (by kernel_rfl))
  f284 := Tryz.func14.trans (congrArg some (by kernel_rfl))
  f317 := Tryz.func21.trans (congrArg some (by kernel_rfl))
  f318 := Tryz.func23.trans (congrArg some (by kernel_rfl))
  t0 := Tryz.underlying0
  a0 := Tryz.isAgg0
  z0 := Tryz.sizeOf0
  v0 := Tryz.zeroValue0
  t3 := Tryz.underlying3
  a3 := Tryz.isAgg3
  z3 := Tryz.sizeOf3
  v3 := Tryz.zeroValue3
  t4 := Tryz.underlying4
  a4 := Tryz.isAgg4
  z4 := Tryz.sizeOf4
  v4 := Tryz.zeroValue4
  t5 := Tryz.underlying5
  a5 := Tryz.isAgg5
  z5 := Tryz.sizeOf5
  v5 := Tryz.zeroValue5
  t9 := Tryz.underlying9
  a9 := Tryz.isAgg9
  z9 := Tryz.sizeOf9
  v9 := Tryz.zeroValue9
  t46 := Tryz.underlying24
  a46 := Tryz.isAgg24
  z46 := Tryz.sizeOf24
  v46 := Tryz.zeroValue24
  t53 := Tryz.underlying22
  a53 := Tryz.isAgg22
  z53 := Tryz.sizeOf22
  v53 := Tryz.zeroValue22
  t212 := Tryz.underlying60
  a212 := Tryz.isAgg60
  z212 := Tryz.sizeOf60
  v212 := Tryz.zeroValue60
  g17 := by kernel_rfl
  i0 := by kernel_rfl
  i3 := by kernel_rfl
  i4 := by kernel_rfl
  i5 := by kernel_rfl
  i9 := by kernel_rfl
  i46 := by kernel_rfl
  i53 := by kernel_rfl
  i212 := by kernel_rfl
  m17 := by kernel_rfl }
open Go.Lib in
/-- internal/strconv.numDigits, at a d that is not 0: THE NUMBER OF d's DECIMAL DIGITS. The world is as it was. (LAID: no walk: one application.) -/
theorem Tryz.internal_strconv_numDigits (u : Nat) (h1 : 1 ≤ u) (h2 : u < 18446744073709551616) (w : World) (htab : Lib.TabIs Tryz.prog w "internal/strconv.uint64pow10" .u64 Lib.pow10Tab) :
    Calls Tryz.prog 14 #[.int .u64 u] w fun e w' => e = .returned (.int .i64 (Lib.nDigits u)) ∧ w' = w := Any.internal_strconv_numDigits Tryz.laysM284 u h1 h2 w htab
def Tryz.lays285_ren : Go.Shelf.Ren := ⟨fun | 285 => 15 | n => n, fun | 37 => 26 | 53 => 22 | 3 => 3 | 4 => 4 | 51 => 61 | 9 => 9 | 5 => 5 | 0 => 0 | n => n, fun | n => n⟩
theorem Tryz.lays285 : Go.Proofs.Lays.n285 Tryz.prog Tryz.lays285_ren := {
  mixed := by kernel_rfl
  f285 := Tryz.func15.trans (congrArg some (by kernel_rfl))
  t0 := Tryz.underlying0
  a0 := Tryz.isAgg0
  z0 := Tryz.sizeOf0
  v0 := Tryz.zeroValue0
  t3 := Tryz.underlying3
  a3 := Tryz.isAgg3
  z3 := Tryz.sizeOf3
  v3 := Tryz.zeroValue3
  t4 := Tryz.underlying4
  a4 := Tryz.isAgg4
  z4 := Tryz.sizeOf4
  v4 := Tryz.zeroValue4
  t5 := Tryz.underlying5
  a5 := Tryz.isAgg5
  z5 := Tryz.sizeOf5
  v5 := Tryz.zeroValue5
  t9 := Tryz.underlying9
  a9 := Tryz.isAgg9
  z9 := Tryz.sizeOf9
  v9 := Tryz.zeroValue9
  t37 := Tryz.underlying26
  a37 := Tryz.isAgg26
  z37 := Tryz.sizeOf26
  v37 := Tryz.zeroValue26
  t51 := Tryz.underlying61
  a51 := Tryz.isAgg61
  z51 := Tryz.sizeOf61
  v51 := Tryz.zeroValue61
  t53 := Tryz.underlying22
  a53 := Tryz.isAgg22
  z53 := Tryz.sizeOf22
  v53 := Tryz.zeroValue22 }
open Go.RowKit Go.Sort Go.Lib in
/-- internal/strconv.formatBase10: "formatBase10 formats the decimal representation of u into a. The caller is responsible for ensuring that a is big enough to hold u. If a is too big, leading zeros will be filled in as needed.": THE ROW HOLDS u's DIGITS ('FmtInv .. 0 ..': every place t holds 'dg u (len - 1 - t)'); all else is as it was but for the count of draws. (LAID: no walk: one application.) -/
theorem Tryz.internal_strconv_formatBase10 (blk off cap : Nat) (u : Nat) (d : Array UInt8) (w : World) (hH : Holds (fun (b : UInt8) => Value.int .u8 (b.toNat : Int)) w blk off d) (hu : u < 10 ^ d.size) (hu64 : u < 18446744073709551616) (hsz : d.size < 4611686018427387904) :
    Calls Tryz.prog 15 #[.slice (some ⟨blk, off, none⟩) d.size cap, .int .u64 u] w fun e w' =>
      e = .returned (.tuple #[]) ∧ ∃ (n v' : Nat) (dk : Array UInt8), w' = (putRow (fun (b : UInt8) => Value.int .u8 (b.toNat : Int)) w blk off dk).drewN n ∧ FmtInv d.size u 0 v' dk := Any.internal_strconv_formatBase10 Tryz.lays285 blk off cap u d w hH hu hu64 hsz
def Tryz.laysM246_ren : Go.Shelf.Ren := ⟨fun | 246 => 10 | 283 => 13 | 284 => 14 | 285 => 15 | 286 => 16 | 129 => 22 | 317 => 21 | 318 => 23 | 319 => 24 | 320 => 25 | 337 => 35 | 338 => 36 | n => n, fun | 2 => 2 | 3 => 3 | 9 => 9 | 4 => 4 | 171 => 46 | 0 => 0 | 53 => 22 | 37 => 26 | 5 => 5 | 173 => 49 | 212 => 60 | 51 => 61 | 20 => 20 | 213 => 62 | 46 => 24 | 232 => 123 | 233 => 124 | n => n, fun | 17 => 1 | 18 => 3 | 19 => 4 | n => n⟩
theorem Tryz.laysM246 : Go.Proofs.LaysM.n246 Tryz.prog Tryz.laysM246_ren := {
  mixed := by kernel_rfl
  f129 := Tryz.func22.trans (congrArg some (by kernel_rfl))
  f246 := Tryz.func10.trans (congrArg some (by kernel_rfl))
  f283 := Tryz.func13.trans (congrArg some (by kernel_rfl))
  f284 := Tryz.func14.trans (congrArg some (by kernel_rfl))
  f285 := Tryz.func15.trans (congrArg some (by kernel_rfl))
  f286 := Tryz.func16.trans (congrArg some (by kernel_rfl))
  f317 := Tryz.func21.trans (congrArg some (by kernel_rfl))
  f318 := Tryz.func23.trans (congrArg some (by kernel_rfl))
  f319 := Tryz.func24.trans (congrArg some (by kernel_rfl))
  f320 := Tryz.func25.trans (congrArg some (by kernel_rfl))
  f337 := Tryz.func35.trans (congrArg some (by kernel_rfl))
  f338 := Tryz.func36.trans (congrArg some (by kernel_rfl))
  t0 := Tryz.underlying0
  a0 := Tryz.isAgg0
  z0 := Tryz.sizeOf0
  v0 := Tryz.zeroValue0
  t2 := Tryz.underlying2
  a2 := Tryz.isAgg2
  z2 := Tryz.sizeOf2
  v2 := Tryz.zeroValue2
  t3 := Tryz.underlying3
  a3 := Tryz.isAgg3
  z3 := Tryz.sizeOf3
  v3 := Tryz.zeroValue3
  t4 := Tryz.underlying4
  a4 := Tryz.isAgg4
  z4 := Tryz.sizeOf4
  v4 := Tryz.zeroValue4
  t5 := Tryz.underlying5
  a5 := Tryz.isAgg5
  z5 := Tryz.sizeOf5
  v5 := Tryz.zeroValue5
  t9 := Tryz.underlying9
  a9 := Tryz.isAgg9
  z9 := Tryz.sizeOf9
  v9 := Tryz.zeroValue9
  t20 := Tryz.underlying20
  a20 := Tryz.isAgg20
  z20 := Tryz.sizeOf20
  v20 := Tryz.zeroValue20
  t37 := Tryz.underlying26
  a37 := Tryz.isAgg26
  z37 := Tryz.sizeOf26
  v37 := Tryz.zeroValue26
  t46 := Tryz.underlying24
  a46 := Tryz.isAgg24
  z46 := Tryz.sizeOf24
  v46 := Tryz.zeroValue24
  t51 := Tryz.underlying61
  a51 := Tryz.isAgg61
  z51 := Tryz.sizeOf61
  v51 := Tryz.zeroValue61
  t53 := Tryz.underlying22
  a53 := Tryz.isAgg22
  z53 := Tryz.sizeOf22
  v53 := Tryz.zeroValue22
  t171 := Tryz.underlying46
  a171 := Tryz.isAgg46
  z171 := Tryz.sizeOf46
  v171 := Tryz.zeroValue46
  t173 := Tryz.underlying49
  a173 := Tryz.isAgg49
  z173 := Tryz.sizeOf49
  v173 := Tryz.zeroValue49
  t212 := Tryz.underlying60
  a212 := Tryz.isAgg60
  z212 := Tryz.sizeOf60
  v212 := Tryz.zeroValue60
  t213 := Tryz.underlying62
  a213 := Tryz.isAgg62
  z213 := Tryz.sizeOf62
  t232 := Tryz.underlying123
  a232 := Tryz.isAgg123
  z232 := Tryz.sizeOf123
  v232 := Tryz.zeroValue123
  t233 := Tryz.underlying124
  a233 := Tryz.isAgg124
  z233 := Tryz.sizeOf124
  v233 := Tryz.zeroValue124
  g17 := by kernel_rfl
  g18 := by kernel_rfl
  g19 := by kernel_rfl
  i0 := by kernel_rfl
  i2 := by kernel_rfl
  i3 := by kernel_rfl
  i4 := by kernel_rfl
  i5 := by kernel_rfl
  i9 := by kernel_rfl
  i20 := by kernel_rfl
  i37 := by kernel_rfl
  i46 := by kernel_rfl
  i51 := by kernel_rfl
  i53 := by kernel_rfl
  i171 := by kernel_rfl
  i173 := by kernel_rfl
  i212 := by kernel_rfl
  i232 := by kernel_rfl
  i233 := by kernel_rfl
  m17 := by kernel_rfl
  m18 := by kernel_rfl
  m19 := by kernel_rfl }
open Go.RowKit Go.Sort Go.Lib in
/-- internal/strconv.FormatInt: "FormatInt returns the string representation of i in the given base": AT BASE 10: i's decimal numeral, for every int64. The world behind the call: the world before it, new blocks behind the heap, draws. (LAID: no walk: one application.) -/
theorem Tryz.internal_strconv_FormatInt_10 (n : Int) (h0 : -9223372036854775808 ≤ n) (h1 : n ≤ 9223372036854775807) (w : World) (htab : Lib.TabIs Tryz.prog w "internal/strconv.uint64pow10" .u64 Lib.pow10Tab) :
    Calls Tryz.prog 10 #[.int .i64 n, .int .i64 10] w fun e w' => e = .returned (.string ⟨(Lib.itoa n).toArray⟩) ∧ ∃ k os, w' = grow (w.drewN k) os := Any.internal_strconv_FormatInt_10 Tryz.laysM246 n h0 h1 w htab
def Tryz.lays246_ren : Go.Shelf.Ren := ⟨fun | 246 => 10 | 283 => 13 | 284 => 14 | 285 => 15 | 286 => 16 | 129 => 22 | 317 => 21 | 318 => 23 | 319 => 24 | 320 => 25 | 337 => 35 | 338 => 36 | n => n, fun | 2 => 2 | 3 => 3 | 9 => 9 | 4 => 4 | 171 => 46 | 0 => 0 | 53 => 22 | 37 => 26 | 5 => 5 | 173 => 49 | 212 => 60 | 51 => 61 | 20 => 20 | 213 => 62 | 46 => 24 | 232 => 123 | 233 => 124 | n => n, fun | 17 => 1 | 18 => 3 | 19 => 4 | n => n⟩
theorem Tryz.lays246 : Go.Proofs.Lays.n246 Tryz.prog Tryz.lays246_ren := {
  mixed := by kernel_rfl
  f129 := Tryz.func22.trans (congrArg some (by kernel_rfl))
  f246 := Tryz.func10.trans (congrArg some (by kernel_rfl))
  f283 := Tryz.func13.trans (congrArg some (by kernel_rfl))
  f284 := Tryz.func14.trans (congrArg some (by kernel_rfl))
  f285 := Tryz.func15.trans (congrArg some (by kernel_rfl))
  f286 := Tryz.func16.trans (congrArg some (by kernel_rfl))
  f317 := Tryz.func21.trans (congrArg some (by kernel_rfl))
  f318 := Tryz.func23.trans (congrArg some (by kernel_rfl))
  f319 := Tryz.func24.trans (congrArg some (by kernel_rfl))
  f320 := Tryz.func25.trans (congrArg some (by kernel_rfl))
  f337 := Tryz.func35.trans (congrArg some (by kernel_rfl))
  f338 := Tryz.func36.trans (congrArg some (by kernel_rfl))
  t0 := Tryz.underlying0
  a0 := Tryz.isAgg0
  z0 := Tryz.sizeOf0
  v0 := Tryz.zeroValue0
  t2 := Tryz.underlying2
  a2 := Tryz.isAgg2
  z2 := Tryz.sizeOf2
  v2 := Tryz.zeroValue2
  t3 := Tryz.underlying3
  a3 := Tryz.isAgg3
  z3 := Tryz.sizeOf3
  v3 := Tryz.zeroValue3
  t4 := Tryz.underlying4
  a4 := Tryz.isAgg4
  z4 := Tryz.sizeOf4
  v4 := Tryz.zeroValue4
  t5 := Tryz.underlying5
  a5 := Tryz.isAgg5
  z5 := Tryz.sizeOf5
  v5 := Tryz.zeroValue5
  t9 := Tryz.underlying9
  a9 := Tryz.isAgg9
  z9 := Tryz.sizeOf9
  v9 := Tryz.zeroValue9
  t20 := Tryz.underlying20
  a20 := Tryz.isAgg20
  z20 := Tryz.sizeOf20
  v20 := Tryz.zeroValue20
  t37 := Tryz.underlying26
  a37 := Tryz.isAgg26
  z37 := Tryz.sizeOf26
  v37 := Tryz.zeroValue26
  t46 := Tryz.underlying24
  a46 := Tryz.isAgg24
  z46 := Tryz.sizeOf24
  v46 := Tryz.zeroValue24
  t51 := Tryz.underlying61
  a51 := Tryz.isAgg61
  z51 := Tryz.sizeOf61
  v51 := Tryz.zeroValue61
  t53 := Tryz.underlying22
  a53 := Tryz.isAgg22
  z53 := Tryz.sizeOf22
  v53 := Tryz.zeroValue22
  t171 := Tryz.underlying46
  a171 := Tryz.isAgg46
  z171 := Tryz.sizeOf46
  v171 := Tryz.zeroValue46
  t173 := Tryz.underlying49
  a173 := Tryz.isAgg49
  z173 := Tryz.sizeOf49
  v173 := Tryz.zeroValue49
  t212 := Tryz.underlying60
  a212 := Tryz.isAgg60
  z212 := Tryz.sizeOf60
  v212 := Tryz.zeroValue60
  t213 := Tryz.underlying62
  a213 := Tryz.isAgg62
  z213 := Tryz.sizeOf62
  t232 := Tryz.underlying123
  a232 := Tryz.isAgg123
  z232 := Tryz.sizeOf123
  v232 := Tryz.zeroValue123
  t233 := Tryz.underlying124
  a233 := Tryz.isAgg124
  z233 := Tryz.sizeOf124
  v233 := Tryz.zeroValue124
  g17 := by kernel_rfl
  g18 := by kernel_rfl
  g19 := by kernel_rfl }
open Go.RowKit Go.Sort Go.Lib in
/-- THE ROAD WITHOUT THE TABLE: 0 <= i < 100: two constants are read, nothing is laid: no premise on the world, and the world is as it was. (LAID: no walk: one application.) -/
theorem Tryz.internal_strconv_FormatInt_10_small (i : Nat) (hi : i < 100) (w : World) :
    Calls Tryz.prog 10 #[.int .i64 i, .int .i64 10] w fun e w' => e = .returned (.string ⟨(Lib.decDigits i).toArray⟩) ∧ w' = w := Any.internal_strconv_FormatInt_10_small Tryz.lays246 i hi w
def Tryz.laysM173_ren : Go.Shelf.Ren := ⟨fun | 173 => 7 | 246 => 10 | 283 => 13 | 284 => 14 | 285 => 15 | 286 => 16 | 129 => 22 | 317 => 21 | 318 => 23 | 319 => 24 | 320 => 25 | 337 => 35 | 338 => 36 | n => n, fun | 2 => 2 | 3 => 3 | 9 => 9 | 4 => 4 | 171 => 46 | 0 => 0 | 53 => 22 | 37 => 26 | 5 => 5 | 173 => 49 | 212 => 60 | 51 => 61 | 20 => 20 | 213 => 62 | 46 => 24 | 232 => 123 | 233 => 124 | n => n, fun | 17 => 1 | 18 => 3 | 19 => 4 | n => n⟩
theorem Tryz.laysM173 : Go.Proofs.LaysM.n173 Tryz.prog Tryz.laysM173_ren := {
  mixed := by kernel_rfl
  f129 := Tryz.func22.trans (congrArg some (by kernel_rfl))
  f173 := Tryz.func7.trans (congrArg some (by kernel_rfl))
  f246 := Tryz.func10.trans (congrArg some (by kernel_rfl))
  f283 := Tryz.func13.trans (congrArg some (by kernel_rfl))
  f284 := Tryz.func14.trans (congrArg some (by kernel_rfl))
  f285 := Tryz.func15.trans (congrArg some (by kernel_rfl))
  f286 := Tryz.func16.trans (congrArg some (by kernel_rfl))
  f317 := Tryz.func21.trans (congrArg some (by kernel_rfl))
  f318 := Tryz.func23.trans (congrArg some (by kernel_rfl))
  f319 := Tryz.func24.trans (congrArg some (by kernel_rfl))
  f320 := Tryz.func25.trans (congrArg some (by kernel_rfl))
  f337 := Tryz.func35.trans (congrArg some (by kernel_rfl))
  f338 := Tryz.func36.trans (congrArg some (by kernel_rfl))
  t0 := Tryz.underlying0
  a0 := Tryz.isAgg0
  z0 := Tryz.sizeOf0
  v0 := Tryz.zeroValue0
  t2 := Tryz.underlying2
  a2 := Tryz.isAgg2
  z2 := Tryz.sizeOf2
  v2 := Tryz.zeroValue2
  t3 := Tryz.underlying3
  a3 := Tryz.isAgg3
  z3 := Tryz.sizeOf3
  v3 := Tryz.zeroValue3
  t4 := Tryz.underlying4
  a4 := Tryz.isAgg4
  z4 := Tryz.sizeOf4
  v4 := Tryz.zeroValue4
  t5 := Tryz.underlying5
  a5 := Tryz.isAgg5
  z5 := Tryz.sizeOf5
  v5 := Tryz.zeroValue5
  t9 := Tryz.underlying9
  a9 := Tryz.isAgg9
  z9 := Tryz.sizeOf9
  v9 := Tryz.zeroValue9
  t20 := Tryz.underlying20
  a20 := Tryz.isAgg20
  z20 := Tryz.sizeOf20
  v20 := Tryz.zeroValue20
  t37 := Tryz.underlying26
  a37 := Tryz.isAgg26
  z37 := Tryz.sizeOf26
  v37 := Tryz.zeroValue26
  t46 := Tryz.underlying24
  a46 := Tryz.isAgg24
  z46 := Tryz.sizeOf24
  v46 := Tryz.zeroValue24
  t51 := Tryz.underlying61
  a51 := Tryz.isAgg61
  z51 := Tryz.sizeOf61
  v51 := Tryz.zeroValue61
  t53 := Tryz.underlying22
  a53 := Tryz.isAgg22
  z53 := Tryz.sizeOf22
  v53 := Tryz.zeroValue22
  t171 := Tryz.underlying46
  a171 := Tryz.isAgg46
  z171 := Tryz.sizeOf46
  v171 := Tryz.zeroValue46
  t173 := Tryz.underlying49
  a173 := Tryz.isAgg49
  z173 := Tryz.sizeOf49
  v173 := Tryz.zeroValue49
  t212 := Tryz.underlying60
  a212 := Tryz.isAgg60
  z212 := Tryz.sizeOf60
  v212 := Tryz.zeroValue60
  t213 := Tryz.underlying62
  a213 := Tryz.isAgg62
  z213 := Tryz.sizeOf62
  t232 := Tryz.underlying123
  a232 := Tryz.isAgg123
  z232 := Tryz.sizeOf123
  v232 := Tryz.zeroValue123
  t233 := Tryz.underlying124
  a233 := Tryz.isAgg124
  z233 := Tryz.sizeOf124
  v233 := Tryz.zeroValue124
  g17 := by kernel_rfl
  g18 := by kernel_rfl
  g19 := by kernel_rfl
  i0 := by kernel_rfl
  i2 := by kernel_rfl
  i3 := by kernel_rfl
  i4 := by kernel_rfl
  i5 := by kernel_rfl
  i9 := by kernel_rfl
  i20 := by kernel_rfl
  i37 := by kernel_rfl
  i46 := by kernel_rfl
  i51 := by kernel_rfl
  i53 := by kernel_rfl
  i171 := by kernel_rfl
  i173 := by kernel_rfl
  i212 := by kernel_rfl
  i232 := by kernel_rfl
  i233 := by kernel_rfl
  m17 := by kernel_rfl
  m18 := by kernel_rfl
  m19 := by kernel_rfl }
open Go.RowKit Go.Sort Go.Lib in
/-- strconv.FormatInt: "FormatInt returns the string representation of i in the given base": AT BASE 10: i's decimal numeral, for every int64. (LAID: no walk: one application.) -/
theorem Tryz.strconv_FormatInt_10 (n : Int) (h0 : -9223372036854775808 ≤ n) (h1 : n ≤ 9223372036854775807) (w : World) (htab : Lib.TabIs Tryz.prog w "internal/strconv.uint64pow10" .u64 Lib.pow10Tab) :
    Calls Tryz.prog 7 #[.int .i64 n, .int .i64 10] w fun e w' => e = .returned (.string ⟨(Lib.itoa n).toArray⟩) ∧ ∃ k os, w' = grow (w.drewN k) os := Any.strconv_FormatInt_10 Tryz.laysM173 n h0 h1 w htab
def Tryz.lays173_ren : Go.Shelf.Ren := ⟨fun | 173 => 7 | 246 => 10 | 283 => 13 | 284 => 14 | 285 => 15 | 286 => 16 | 129 => 22 | 317 => 21 | 318 => 23 | 319 => 24 | 320 => 25 | 337 => 35 | 338 => 36 | n => n, fun | 2 => 2 | 3 => 3 | 9 => 9 | 4 => 4 | 171 => 46 | 0 => 0 | 53 => 22 | 37 => 26 | 5 => 5 | 173 => 49 | 212 => 60 | 51 => 61 | 20 => 20 | 213 => 62 | 46 => 24 | 232 => 123 | 233 => 124 | n => n, fun | 17 => 1 | 18 => 3 | 19 => 4 | n => n⟩
theorem Tryz.lays173 : Go.Proofs.Lays.n173 Tryz.prog Tryz.lays173_ren := {
  mixed := by kernel_rfl
  f129 := Tryz.func22.trans (congrArg some (by kernel_rfl))
  f173 := Tryz.func7.trans (congrArg some (by kernel_rfl))
  f246 := Tryz.func10.trans (congrArg some (by kernel_rfl))
  f283 := Tryz.func13.trans (congrArg some (by kernel_rfl))
  f284 := Tryz.func14.trans (congrArg some (by kernel_rfl))
  f285 := Tryz.func15.trans (congrArg some (by kernel_rfl))
  f286 := Tryz.func16.trans (congrArg some (by kernel_rfl))
  f317 := Tryz.func21.trans (congrArg some (by kernel_rfl))
  f318 := Tryz.func23.trans (congrArg some (by kernel_rfl))
  f319 := Tryz.func24.trans (congrArg some (by kernel_rfl))
  f320 := Tryz.func25.trans (congrArg some (by kernel_rfl))
  f337 := Tryz.func35.trans (congrArg some (by kernel_rfl))
  f338 := Tryz.func36.trans (congrArg some (by kernel_rfl))
  t0 := Tryz.underlying0
  a0 := Tryz.isAgg0
  z0 := Tryz.sizeOf0
  v0 := Tryz.zeroValue0
  t2 := Tryz.underlying2
  a2 := Tryz.isAgg2
  z2 := Tryz.sizeOf2
  v2 := Tryz.zeroValue2
  t3 := Tryz.underlying3
  a3 := Tryz.isAgg3
  z3 := Tryz.sizeOf3
  v3 := Tryz.zeroValue3
  t4 := Tryz.underlying4
  a4 := Tryz.isAgg4
  z4 := Tryz.sizeOf4
  v4 := Tryz.zeroValue4
  t5 := Tryz.underlying5
  a5 := Tryz.isAgg5
  z5 := Tryz.sizeOf5
  v5 := Tryz.zeroValue5
  t9 := Tryz.underlying9
  a9 := Tryz.isAgg9
  z9 := Tryz.sizeOf9
  v9 := Tryz.zeroValue9
  t20 := Tryz.underlying20
  a20 := Tryz.isAgg20
  z20 := Tryz.sizeOf20
  v20 := Tryz.zeroValue20
  t37 := Tryz.underlying26
  a37 := Tryz.isAgg26
  z37 := Tryz.sizeOf26
  v37 := Tryz.zeroValue26
  t46 := Tryz.underlying24
  a46 := Tryz.isAgg24
  z46 := Tryz.sizeOf24
  v46 := Tryz.zeroValue24
  t51 := Tryz.underlying61
  a51 := Tryz.isAgg61
  z51 := Tryz.sizeOf61
  v51 := Tryz.zeroValue61
  t53 := Tryz.underlying22
  a53 := Tryz.isAgg22
  z53 := Tryz.sizeOf22
  v53 := Tryz.zeroValue22
  t171 := Tryz.underlying46
  a171 := Tryz.isAgg46
  z171 := Tryz.sizeOf46
  v171 := Tryz.zeroValue46
  t173 := Tryz.underlying49
  a173 := Tryz.isAgg49
  z173 := Tryz.sizeOf49
  v173 := Tryz.zeroValue49
  t212 := Tryz.underlying60
  a212 := Tryz.isAgg60
  z212 := Tryz.sizeOf60
  v212 := Tryz.zeroValue60
  t213 := Tryz.underlying62
  a213 := Tryz.isAgg62
  z213 := Tryz.sizeOf62
  t232 := Tryz.underlying123
  a232 := Tryz.isAgg123
  z232 := Tryz.sizeOf123
  v232 := Tryz.zeroValue123
  t233 := Tryz.underlying124
  a233 := Tryz.isAgg124
  z233 := Tryz.sizeOf124
  v233 := Tryz.zeroValue124
  g17 := by kernel_rfl
  g18 := by kernel_rfl
  g19 := by kernel_rfl }
open Go.RowKit Go.Sort Go.Lib in
/-- THE ROAD WITHOUT THE TABLE: 0 <= i < 100. (LAID: no walk: one application.) -/
theorem Tryz.strconv_FormatInt_10_small (i : Nat) (hi : i < 100) (w : World) :
    Calls Tryz.prog 7 #[.int .i64 i, .int .i64 10] w fun e w' => e = .returned (.string ⟨(Lib.decDigits i).toArray⟩) ∧ w' = w := Any.strconv_FormatInt_10_small Tryz.lays173 i hi w
def Tryz.lays264_ren : Go.Shelf.Ren := ⟨fun | 264 => 154 | n => n, fun | 53 => 22 | 46 => 24 | n => n, fun | n => n⟩
theorem Tryz.lays264 : Go.Proofs.Lays.n264 Tryz.prog Tryz.lays264_ren := {
  mixed := by kernel_rfl
  f264 := Tryz.func154.trans (congrArg some (by kernel_rfl))
  t46 := Tryz.underlying24
  a46 := Tryz.isAgg24
  z46 := Tryz.sizeOf24
  v46 := Tryz.zeroValue24
  t53 := Tryz.underlying22
  a53 := Tryz.isAgg22
  z53 := Tryz.sizeOf22
  v53 := Tryz.zeroValue22 }
open Go.RowKit Go.Lib in
theorem Tryz.bits_Mul64 (x y : Nat) (hx : x < 18446744073709551616) (hy : y < 18446744073709551616) (w : World) :
    Calls Tryz.prog 154 #[.int .u64 x, .int .u64 y] w fun e w' => e = .returned (.tuple #[.int .u64 ((x * y / 18446744073709551616 : Nat) : Int), .int .u64 ((x * y % 18446744073709551616 : Nat) : Int)]) ∧ w' = w := Any.bits_Mul64 Tryz.lays264 x y hx hy w
def Tryz.lays260_ren : Go.Shelf.Ren := ⟨fun | 260 => 120 | n => n, fun | 9 => 9 | 21 => 21 | 3 => 3 | 4 => 4 | 5 => 5 | 119 => 212 | 0 => 0 | 46 => 24 | 139 => 215 | 138 => 214 | n => n, fun | 3 => 7 | 4 => 8 | n => n⟩
theorem Tryz.lays260 : Go.Proofs.Lays.n260 Tryz.prog Tryz.lays260_ren := {
  mixed := by kernel_rfl
  f260 := Tryz.func120.trans (congrArg some (by kernel_rfl))
  t0 := Tryz.underlying0
  a0 := Tryz.isAgg0
  z0 := Tryz.sizeOf0
  v0 := Tryz.zeroValue0
  t3 := Tryz.underlying3
  a3 := Tryz.isAgg3
  z3 := Tryz.sizeOf3
  v3 := Tryz.zeroValue3
  t4 := Tryz.underlying4
  a4 := Tryz.isAgg4
  z4 := Tryz.sizeOf4
  v4 := Tryz.zeroValue4
  t5 := Tryz.underlying5
  a5 := Tryz.isAgg5
  z5 := Tryz.sizeOf5
  v5 := Tryz.zeroValue5
  t9 := Tryz.underlying9
  a9 := Tryz.isAgg9
  z9 := Tryz.sizeOf9
  v9 := Tryz.zeroValue9
  t21 := Tryz.underlying21
  a21 := Tryz.isAgg21
  z21 := Tryz.sizeOf21
  v21 := Tryz.zeroValue21
  t46 := Tryz.underlying24
  a46 := Tryz.isAgg24
  z46 := Tryz.sizeOf24
  v46 := Tryz.zeroValue24
  t119 := Tryz.underlying212
  a119 := Tryz.isAgg212
  z119 := Tryz.sizeOf212
  t138 := Tryz.underlying214
  a138 := Tryz.isAgg214
  z138 := Tryz.sizeOf214
  v138 := Tryz.zeroValue214
  t139 := Tryz.underlying215
  a139 := Tryz.isAgg215
  z139 := Tryz.sizeOf215
  v139 := Tryz.zeroValue215
  g3 := by kernel_rfl
  g4 := by kernel_rfl }
open Go.RowKit Go.Lib in
theorem Tryz.utf8_decodeRuneInStringSlow (s : ByteArray) (w : World) (hT : Lib.Utf8Tabs 7 8 w) :
    Calls Tryz.prog 120 #[.string s] w fun e w' => e = .returned (.tuple #[.int .i32 (Lib.decodeGo s).1, .int .i64 (Lib.decodeGo s).2]) ∧ Below w.heap.size w w' := Any.utf8_decodeRuneInStringSlow Tryz.lays260 s w hT
def Tryz.lays197_ren : Go.Shelf.Ren := ⟨fun | 197 => 95 | 260 => 120 | n => n, fun | 9 => 9 | 21 => 21 | 3 => 3 | 4 => 4 | 5 => 5 | 105 => 164 | 119 => 212 | 0 => 0 | 46 => 24 | 139 => 215 | 138 => 214 | n => n, fun | 3 => 7 | 4 => 8 | n => n⟩
theorem Tryz.lays197 : Go.Proofs.Lays.n197 Tryz.prog Tryz.lays197_ren := {
  mixed := by kernel_rfl
  f197 := Tryz.func95.trans (congrArg some (by kernel_rfl))
  f260 := Tryz.func120.trans (congrArg some (by kernel_rfl))
  t0 := Tryz.underlying0
  a0 := Tryz.isAgg0
  z0 := Tryz.sizeOf0
  v0 := Tryz.zeroValue0
  t3 := Tryz.underlying3
  a3 := Tryz.isAgg3
  z3 := Tryz.sizeOf3
  v3 := Tryz.zeroValue3
  t4 := Tryz.underlying4
  a4 := Tryz.isAgg4
  z4 := Tryz.sizeOf4
  v4 := Tryz.zeroValue4
  t5 := Tryz.underlying5
  a5 := Tryz.isAgg5
  z5 := Tryz.sizeOf5
  v5 := Tryz.zeroValue5
  t9 := Tryz.underlying9
  a9 := Tryz.isAgg9
  z9 := Tryz.sizeOf9
  v9 := Tryz.zeroValue9
  t21 := Tryz.underlying21
  a21 := Tryz.isAgg21
  z21 := Tryz.sizeOf21
  v21 := Tryz.zeroValue21
  t46 := Tryz.underlying24
  a46 := Tryz.isAgg24
  z46 := Tryz.sizeOf24
  v46 := Tryz.zeroValue24
  t105 := Tryz.underlying164
  a105 := Tryz.isAgg164
  z105 := Tryz.sizeOf164
  v105 := Tryz.zeroValue164
  t119 := Tryz.underlying212
  a119 := Tryz.isAgg212
  z119 := Tryz.sizeOf212
  t138 := Tryz.underlying214
  a138 := Tryz.isAgg214
  z138 := Tryz.sizeOf214
  v138 := Tryz.zeroValue214
  t139 := Tryz.underlying215
  a139 := Tryz.isAgg215
  z139 := Tryz.sizeOf215
  v139 := Tryz.zeroValue215
  g3 := by kernel_rfl
  g4 := by kernel_rfl }
open Go.RowKit Go.Lib in
/-- **unicode/utf8.DecodeRuneInString AT EVERY STRING.** (LAID: no walk: one application.) -/
theorem Tryz.utf8_DecodeRuneInString (s : ByteArray) (w : World) (hT : Lib.Utf8Tabs 7 8 w) :
    Calls Tryz.prog 95 #[.string s] w fun e w' => e = .returned (.tuple #[.int .i32 (Lib.decodeGo s).1, .int .i64 (Lib.decodeGo s).2]) ∧ Below w.heap.size w w' := Any.utf8_DecodeRuneInString Tryz.lays197 s w hT
end Go.Proofs
