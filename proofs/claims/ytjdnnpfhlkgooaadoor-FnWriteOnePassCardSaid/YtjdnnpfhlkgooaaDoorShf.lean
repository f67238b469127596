/-
  DERIVED: THE SHELF's CONTRACTS AT THIS DUMP, IN PLAIN WORDS (tools/lay-plain.mjs out of 'TrydShelf.lean', which tools/lay-shelf.mjs wrote): THE SAME DECLARATIONS UNDER THE SAME NAMES: 'import', 'namespace', 'open', 'def', 'theorem' AND NOTHING ELSE: no command of the shelf's: FOR A HAND-IN. Each laying: the table of numbers ('.._ren') and one theorem, a field a fact of the dump's own or the kernel's comparison; each contract: ONE APPLICATION.
-/
import Derived.Shelf.Small.Utf8
import Derived.Shelf.Strconv.Itoa0
import Derived.Shelf.Strconv.Itoa1
import Derived.Shelf.LaysM
import Derived.Shelf.Strconv.Itoa2
import Derived.Shelf.Strconv.Itoa3
import Derived.Ground.MnProg
import Derived.Shelf.Bin.BEUint64
import Derived.Shelf.Bin.BEUint64Panics
import Derived.Shelf.Bin.ReadersZ
import Derived.Shelf.Unicode.Decode
import Derived.Shelf.Unicode.DecodeSlow
import Derived.Shelf.Unicode.DecodeAny
import Derived.Shelf.Unicode.DecodeLast
import Derived.Test.YtjdnnpfhlkgooaaDoorProg
namespace Go.Proofs
open Go.Shelf
def Tryd.lays120_ren : Go.Shelf.Ren := ⟨fun | 120 => 89 | n => n, fun | 5 => 5 | 4 => 4 | n => n, fun | n => n⟩
theorem Tryd.lays120 : Go.Proofs.Lays.n120 Tryd.prog Tryd.lays120_ren := {
  mixed := by kernel_rfl
  f120 := Tryd.func89.trans (congrArg some (by kernel_rfl))
  t4 := Tryd.underlying4
  a4 := Tryd.isAgg4
  z4 := Tryd.sizeOf4
  v4 := Tryd.zeroValue4
  t5 := Tryd.underlying5
  a5 := Tryd.isAgg5
  z5 := Tryd.sizeOf5
  v5 := Tryd.zeroValue5 }
/-- utf8.RuneStart: "RuneStart reports whether the byte could be the first byte of an encoded, possibly invalid rune. Second and subsequent bytes always have the top two bits set to 10.": IT RETURNS 'Lib.runeStart b'; the world is as it was. ('h0', 'h1': b is a byte: a caller has it of every byte that it was handed.) (LAID: no walk: one application.) -/
theorem Tryd.utf8_RuneStart (b : Int) (w : World) (h0 : 0 ≤ b) (h1 : b < 256) :
    Calls Tryd.prog 89 #[.int .u8 b] w fun e w' => e = .returned (.bool (Lib.runeStart b)) ∧ w' = w := Any.utf8_RuneStart Tryd.lays120 b w h0 h1
def Tryd.lays129_ren : Go.Shelf.Ren := ⟨fun | 129 => 91 | n => n, fun | 53 => 35 | 3 => 3 | 4 => 4 | 46 => 103 | 5 => 5 | 9 => 9 | n => n, fun | n => n⟩
theorem Tryd.lays129 : Go.Proofs.Lays.n129 Tryd.prog Tryd.lays129_ren := {
  mixed := by kernel_rfl
  f129 := Tryd.func91.trans (congrArg some (by kernel_rfl))
  t3 := Tryd.underlying3
  a3 := Tryd.isAgg3
  z3 := Tryd.sizeOf3
  v3 := Tryd.zeroValue3
  t4 := Tryd.underlying4
  a4 := Tryd.isAgg4
  z4 := Tryd.sizeOf4
  v4 := Tryd.zeroValue4
  t5 := Tryd.underlying5
  a5 := Tryd.isAgg5
  z5 := Tryd.sizeOf5
  v5 := Tryd.zeroValue5
  t9 := Tryd.underlying9
  a9 := Tryd.isAgg9
  z9 := Tryd.sizeOf9
  v9 := Tryd.zeroValue9
  t46 := Tryd.underlying103
  a46 := Tryd.isAgg103
  z46 := Tryd.sizeOf103
  v46 := Tryd.zeroValue103
  t53 := Tryd.underlying35
  a53 := Tryd.isAgg35
  z53 := Tryd.sizeOf35
  v53 := Tryd.zeroValue35 }
/-- bits.Len64: "Len64 returns the minimum number of bits required to represent x; the result is 0 for x == 0.": IT RETURNS 'Lib.bitLen x'; the world is as it was. ('h0', 'h1': x is a uint64.) (LAID: no walk: one application.) -/
theorem Tryd.bits_Len64 (x : Int) (w : World) (h0 : 0 ≤ x) (h1 : x ≤ 18446744073709551615) :
    Calls Tryd.prog 91 #[.int .u64 x] w fun e w' => e = .returned (.int .i64 (Lib.bitLen x.toNat)) ∧ w' = w := Any.bits_Len64 Tryd.lays129 x w h0 h1
def Tryd.lays317_ren : Go.Shelf.Ren := ⟨fun | 317 => 90 | n => n, fun | 3 => 3 | 46 => 103 | n => n, fun | n => n⟩
theorem Tryd.lays317 : Go.Proofs.Lays.n317 Tryd.prog Tryd.lays317_ren := {
  mixed := by kernel_rfl
  f317 := Tryd.func90.trans (congrArg some (by kernel_rfl))
  t3 := Tryd.underlying3
  a3 := Tryd.isAgg3
  z3 := Tryd.sizeOf3
  v3 := Tryd.zeroValue3
  t46 := Tryd.underlying103
  a46 := Tryd.isAgg103
  z46 := Tryd.sizeOf103
  v46 := Tryd.zeroValue103 }
open Go.Lib in
/-- internal/strconv.log10Pow2: "log10Pow2(x) returns ⌊log₁₀ 2**x⌋ = ⌊x * log₁₀ 2⌋.": '(x * 78913) >> 18', at an x up to 64 (a length in bits). The world is as it was. (LAID: no walk: one application.) -/
theorem Tryd.internal_strconv_log10Pow2 (x : Nat) (h : x ≤ 64) (w : World) :
    Calls Tryd.prog 90 #[.int .i64 x] w fun e w' => e = .returned (.int .i64 (Lib.l10 x)) ∧ w' = w := Any.internal_strconv_log10Pow2 Tryd.lays317 x h w
def Tryd.lays318_ren : Go.Shelf.Ren := ⟨fun | 318 => 92 | n => n, fun | 3 => 3 | 4 => 4 | n => n, fun | n => n⟩
theorem Tryd.lays318 : Go.Proofs.Lays.n318 Tryd.prog Tryd.lays318_ren := {
  mixed := by kernel_rfl
  f318 := Tryd.func92.trans (congrArg some (by kernel_rfl))
  t3 := Tryd.underlying3
  a3 := Tryd.isAgg3
  z3 := Tryd.sizeOf3
  v3 := Tryd.zeroValue3
  t4 := Tryd.underlying4
  a4 := Tryd.isAgg4
  z4 := Tryd.sizeOf4
  v4 := Tryd.zeroValue4 }
open Go.Lib in
/-- internal/strconv.bool2: "bool2 converts b to an integer: 1 for true, 0 for false." The world is as it was. (LAID: no walk: one application.) -/
theorem Tryd.internal_strconv_bool2_int (b : Bool) (w : World) :
    Calls Tryd.prog 92 #[.bool b] w fun e w' => e = .returned (.int .i64 (if b then 1 else 0)) ∧ w' = w := Any.internal_strconv_bool2_int Tryd.lays318 b w
def Tryd.lays283_ren : Go.Shelf.Ren := ⟨fun | 283 => 84 | n => n, fun | 3 => 3 | 9 => 9 | 4 => 4 | n => n, fun | n => n⟩
theorem Tryd.lays283 : Go.Proofs.Lays.n283 Tryd.prog Tryd.lays283_ren := {
  mixed := by kernel_rfl
  f283 := Tryd.func84.trans (congrArg some (by kernel_rfl))
  t3 := Tryd.underlying3
  a3 := Tryd.isAgg3
  z3 := Tryd.sizeOf3
  v3 := Tryd.zeroValue3
  t4 := Tryd.underlying4
  a4 := Tryd.isAgg4
  z4 := Tryd.sizeOf4
  v4 := Tryd.zeroValue4
  t9 := Tryd.underlying9
  a9 := Tryd.isAgg9
  z9 := Tryd.sizeOf9
  v9 := Tryd.zeroValue9 }
open Go.Lib in
/-- internal/strconv.small: "small returns the string for an i with 0 <= i < nSmalls.": i's decimal numeral. The world is as it was. (LAID: no walk: one application.) -/
theorem Tryd.internal_strconv_small (i : Nat) (h : i < 100) (w : World) :
    Calls Tryd.prog 84 #[.int .i64 i] w fun e w' => e = .returned (.string ⟨(Lib.decDigits i).toArray⟩) ∧ w' = w := Any.internal_strconv_small Tryd.lays283 i h w
def Tryd.laysM284_ren : Go.Shelf.Ren := ⟨fun | 284 => 85 | 129 => 91 | 317 => 90 | 318 => 92 | n => n, fun | 53 => 35 | 3 => 3 | 212 => 199 | 0 => 0 | 4 => 4 | 46 => 103 | 5 => 5 | 9 => 9 | n => n, fun | 17 => 4 | n => n⟩
theorem Tryd.laysM284 : Go.Proofs.LaysM.n284 Tryd.prog Tryd.laysM284_ren := {
  mixed := by kernel_rfl
  f129 := Tryd.func91.trans (congrArg some (by kernel_rfl))
  f284 := Tryd.func85.trans (congrArg some (by kernel_rfl))
  f317 := Tryd.func90.trans (congrArg some (by kernel_rfl))
  f318 := Tryd.func92.trans (congrArg some (by kernel_rfl))
  t0 := Tryd.underlying0
  a0 := Tryd.isAgg0
  z0 := Tryd.sizeOf0
  v0 := Tryd.zeroValue0
  t3 := Tryd.underlying3
  a3 := Tryd.isAgg3
  z3 := Tryd.sizeOf3
  v3 := Tryd.zeroValue3
  t4 := Tryd.underlying4
  a4 := Tryd.isAgg4
  z4 := Tryd.sizeOf4
  v4 := Tryd.zeroValue4
  t5 := Tryd.underlying5
  a5 := Tryd.isAgg5
  z5 := Tryd.sizeOf5
  v5 := Tryd.zeroValue5
  t9 := Tryd.underlying9
  a9 := Tryd.isAgg9
  z9 := Tryd.sizeOf9
  v9 := Tryd.zeroValue9
  t46 := Tryd.underlying103
  a46 := Tryd.isAgg103
  z46 := Tryd.sizeOf103
  v46 := Tryd.zeroValue103
  t53 := Tryd.underlying35
  a53 := Tryd.isAgg35
  z53 := Tryd.sizeOf35
  v53 := Tryd.zeroValue35
  t212 := Tryd.underlying199
  a212 := Tryd.isAgg199
  z212 := Tryd.sizeOf199
  v212 := Tryd.zeroValue199
  g17 := by kernel_rfl
  i0 := by kernel_rfl
  i3 := by kernel_rfl
  i4 := by kernel_rfl
  i5 := by kernel_rfl
  i9 := by kernel_rfl
  i46 := by kernel_rfl
  i53 := by kernel_rfl
  i212 := by kernel_rfl
  m17 := by kernel_rfl }
open Go.Lib in
/-- internal/strconv.numDigits, at a d that is not 0: THE NUMBER OF d's DECIMAL DIGITS. The world is as it was. (LAID: no walk: one application.) -/
theorem Tryd.internal_strconv_numDigits (u : Nat) (h1 : 1 ≤ u) (h2 : u < 18446744073709551616) (w : World) (htab : Lib.TabIs Tryd.prog w "internal/strconv.uint64pow10" .u64 Lib.pow10Tab) :
    Calls Tryd.prog 85 #[.int .u64 u] w fun e w' => e = .returned (.int .i64 (Lib.nDigits u)) ∧ w' = w := Any.internal_strconv_numDigits Tryd.laysM284 u h1 h2 w htab
def Tryd.lays285_ren : Go.Shelf.Ren := ⟨fun | 285 => 86 | n => n, fun | 37 => 22 | 53 => 35 | 3 => 3 | 4 => 4 | 51 => 174 | 9 => 9 | 5 => 5 | 0 => 0 | n => n, fun | n => n⟩
theorem Tryd.lays285 : Go.Proofs.Lays.n285 Tryd.prog Tryd.lays285_ren := {
  mixed := by kernel_rfl
  f285 := Tryd.func86.trans (congrArg some (by kernel_rfl))
  t0 := Tryd.underlying0
  a0 := Tryd.isAgg0
  z0 := Tryd.sizeOf0
  v0 := Tryd.zeroValue0
  t3 := Tryd.underlying3
  a3 := Tryd.isAgg3
  z3 := Tryd.sizeOf3
  v3 := Tryd.zeroValue3
  t4 := Tryd.underlying4
  a4 := Tryd.isAgg4
  z4 := Tryd.sizeOf4
  v4 := Tryd.zeroValue4
  t5 := Tryd.underlying5
  a5 := Tryd.isAgg5
  z5 := Tryd.sizeOf5
  v5 := Tryd.zeroValue5
  t9 := Tryd.underlying9
  a9 := Tryd.isAgg9
  z9 := Tryd.sizeOf9
  v9 := Tryd.zeroValue9
  t37 := Tryd.underlying22
  a37 := Tryd.isAgg22
  z37 := Tryd.sizeOf22
  v37 := Tryd.zeroValue22
  t51 := Tryd.underlying174
  a51 := Tryd.isAgg174
  z51 := Tryd.sizeOf174
  v51 := Tryd.zeroValue174
  t53 := Tryd.underlying35
  a53 := Tryd.isAgg35
  z53 := Tryd.sizeOf35
  v53 := Tryd.zeroValue35 }
open Go.RowKit Go.Sort Go.Lib in
/-- internal/strconv.formatBase10: "formatBase10 formats the decimal representation of u into a. The caller is responsible for ensuring that a is big enough to hold u. If a is too big, leading zeros will be filled in as needed.": THE ROW HOLDS u's DIGITS ('FmtInv .. 0 ..': every place t holds 'dg u (len - 1 - t)'); all else is as it was but for the count of draws. (LAID: no walk: one application.) -/
theorem Tryd.internal_strconv_formatBase10 (blk off cap : Nat) (u : Nat) (d : Array UInt8) (w : World) (hH : Holds (fun (b : UInt8) => Value.int .u8 (b.toNat : Int)) w blk off d) (hu : u < 10 ^ d.size) (hu64 : u < 18446744073709551616) (hsz : d.size < 4611686018427387904) :
    Calls Tryd.prog 86 #[.slice (some ⟨blk, off, none⟩) d.size cap, .int .u64 u] w fun e w' =>
      e = .returned (.tuple #[]) ∧ ∃ (n v' : Nat) (dk : Array UInt8), w' = (putRow (fun (b : UInt8) => Value.int .u8 (b.toNat : Int)) w blk off dk).drewN n ∧ FmtInv d.size u 0 v' dk := Any.internal_strconv_formatBase10 Tryd.lays285 blk off cap u d w hH hu hu64 hsz
def Tryd.laysM246_ren : Go.Shelf.Ren := ⟨fun | 246 => 79 | 283 => 84 | 284 => 85 | 285 => 86 | 286 => 87 | 129 => 91 | 317 => 90 | 318 => 92 | 319 => 93 | 320 => 94 | 337 => 95 | 338 => 96 | n => n, fun | 2 => 2 | 3 => 3 | 9 => 9 | 4 => 4 | 171 => 193 | 0 => 0 | 53 => 35 | 37 => 22 | 5 => 5 | 173 => 195 | 212 => 199 | 51 => 174 | 20 => 20 | 213 => 200 | 46 => 103 | 232 => 207 | 233 => 208 | n => n, fun | 17 => 4 | 18 => 7 | 19 => 8 | n => n⟩
theorem Tryd.laysM246 : Go.Proofs.LaysM.n246 Tryd.prog Tryd.laysM246_ren := {
  mixed := by kernel_rfl
  f129 := Tryd.func91.trans (congrArg some (by kernel_rfl))
  f246 := Tryd.func79.trans (congrArg some (by kernel_rfl))
  f283 := Tryd.func84.trans (congrArg some (by kernel_rfl))
  f284 := Tryd.func85.trans (congrArg some (by kernel_rfl))
  f285 := Tryd.func86.trans (congrArg some (by kernel_rfl))
  f286 := Tryd.func87.trans (congrArg some (by kernel_rfl))
  f317 := Tryd.func90.trans (congrArg some (by kernel_rfl))
  f318 := Tryd.func92.trans (congrArg some (by kernel_rfl))
  f319 := Tryd.func93.trans (congrArg some (by kernel_rfl))
  f320 := Tryd.func94.trans (congrArg some (by kernel_rfl))
  f337 := Tryd.func95.trans (congrArg some (by kernel_rfl))
  f338 := Tryd.func96.trans (congrArg some (by kernel_rfl))
  t0 := Tryd.underlying0
  a0 := Tryd.isAgg0
  z0 := Tryd.sizeOf0
  v0 := Tryd.zeroValue0
  t2 := Tryd.underlying2
  a2 := Tryd.isAgg2
  z2 := Tryd.sizeOf2
  v2 := Tryd.zeroValue2
  t3 := Tryd.underlying3
  a3 := Tryd.isAgg3
  z3 := Tryd.sizeOf3
  v3 := Tryd.zeroValue3
  t4 := Tryd.underlying4
  a4 := Tryd.isAgg4
  z4 := Tryd.sizeOf4
  v4 := Tryd.zeroValue4
  t5 := Tryd.underlying5
  a5 := Tryd.isAgg5
  z5 := Tryd.sizeOf5
  v5 := Tryd.zeroValue5
  t9 := Tryd.underlying9
  a9 := Tryd.isAgg9
  z9 := Tryd.sizeOf9
  v9 := Tryd.zeroValue9
  t20 := Tryd.underlying20
  a20 := Tryd.isAgg20
  z20 := Tryd.sizeOf20
  v20 := Tryd.zeroValue20
  t37 := Tryd.underlying22
  a37 := Tryd.isAgg22
  z37 := Tryd.sizeOf22
  v37 := Tryd.zeroValue22
  t46 := Tryd.underlying103
  a46 := Tryd.isAgg103
  z46 := Tryd.sizeOf103
  v46 := Tryd.zeroValue103
  t51 := Tryd.underlying174
  a51 := Tryd.isAgg174
  z51 := Tryd.sizeOf174
  v51 := Tryd.zeroValue174
  t53 := Tryd.underlying35
  a53 := Tryd.isAgg35
  z53 := Tryd.sizeOf35
  v53 := Tryd.zeroValue35
  t171 := Tryd.underlying193
  a171 := Tryd.isAgg193
  z171 := Tryd.sizeOf193
  v171 := Tryd.zeroValue193
  t173 := Tryd.underlying195
  a173 := Tryd.isAgg195
  z173 := Tryd.sizeOf195
  v173 := Tryd.zeroValue195
  t212 := Tryd.underlying199
  a212 := Tryd.isAgg199
  z212 := Tryd.sizeOf199
  v212 := Tryd.zeroValue199
  t213 := Tryd.underlying200
  a213 := Tryd.isAgg200
  z213 := Tryd.sizeOf200
  t232 := Tryd.underlying207
  a232 := Tryd.isAgg207
  z232 := Tryd.sizeOf207
  v232 := Tryd.zeroValue207
  t233 := Tryd.underlying208
  a233 := Tryd.isAgg208
  z233 := Tryd.sizeOf208
  v233 := Tryd.zeroValue208
  g17 := by kernel_rfl
  g18 := by kernel_rfl
  g19 := by kernel_rfl
  i0 := by kernel_rfl
  i2 := by kernel_rfl
  i3 := by kernel_rfl
  i4 := by kernel_rfl
  i5 := by kernel_rfl
  i9 := by kernel_rfl
  i20 := by kernel_rfl
  i37 := by kernel_rfl
  i46 := by kernel_rfl
  i51 := by kernel_rfl
  i53 := by kernel_rfl
  i171 := by kernel_rfl
  i173 := by kernel_rfl
  i212 := by kernel_rfl
  i232 := by kernel_rfl
  i233 := by kernel_rfl
  m17 := by kernel_rfl
  m18 := by kernel_rfl
  m19 := by kernel_rfl }
open Go.RowKit Go.Sort Go.Lib in
/-- internal/strconv.FormatInt: "FormatInt returns the string representation of i in the given base": AT BASE 10: i's decimal numeral, for every int64. The world behind the call: the world before it, new blocks behind the heap, draws. (LAID: no walk: one application.) -/
theorem Tryd.internal_strconv_FormatInt_10 (n : Int) (h0 : -9223372036854775808 ≤ n) (h1 : n ≤ 9223372036854775807) (w : World) (htab : Lib.TabIs Tryd.prog w "internal/strconv.uint64pow10" .u64 Lib.pow10Tab) :
    Calls Tryd.prog 79 #[.int .i64 n, .int .i64 10] w fun e w' => e = .returned (.string ⟨(Lib.itoa n).toArray⟩) ∧ ∃ k os, w' = grow (w.drewN k) os := Any.internal_strconv_FormatInt_10 Tryd.laysM246 n h0 h1 w htab
def Tryd.lays246_ren : Go.Shelf.Ren := ⟨fun | 246 => 79 | 283 => 84 | 284 => 85 | 285 => 86 | 286 => 87 | 129 => 91 | 317 => 90 | 318 => 92 | 319 => 93 | 320 => 94 | 337 => 95 | 338 => 96 | n => n, fun | 2 => 2 | 3 => 3 | 9 => 9 | 4 => 4 | 171 => 193 | 0 => 0 | 53 => 35 | 37 => 22 | 5 => 5 | 173 => 195 | 212 => 199 | 51 => 174 | 20 => 20 | 213 => 200 | 46 => 103 | 232 => 207 | 233 => 208 | n => n, fun | 17 => 4 | 18 => 7 | 19 => 8 | n => n⟩
theorem Tryd.lays246 : Go.Proofs.Lays.n246 Tryd.prog Tryd.lays246_ren := {
  mixed := by kernel_rfl
  f129 := Tryd.func91.trans (congrArg some (by kernel_rfl))
  f246 := Tryd.func79.trans (congrArg some (by kernel_rfl))
  f283 := Tryd.func84.trans (congrArg some (by kernel_rfl))
  f284 := Tryd.func85.trans (congrArg some (by kernel_rfl))
  f285 := Tryd.func86.trans (congrArg some (by kernel_rfl))
  f286 := Tryd.func87.trans (congrArg some (by kernel_rfl))
  f317 := Tryd.func90.trans (congrArg some (by kernel_rfl))
  f318 := Tryd.func92.trans (congrArg some (by kernel_rfl))
  f319 := Tryd.func93.trans (congrArg some (by kernel_rfl))
  f320 := Tryd.func94.trans (congrArg some (by kernel_rfl))
  f337 := Tryd.func95.trans (congrArg some (by kernel_rfl))
  f338 := Tryd.func96.trans (congrArg some (by kernel_rfl))
  t0 := Tryd.underlying0
  a0 := Tryd.isAgg0
  z0 := Tryd.sizeOf0
  v0 := Tryd.zeroValue0
  t2 := Tryd.underlying2
  a2 := Tryd.isAgg2
  z2 := Tryd.sizeOf2
  v2 := Tryd.zeroValue2
  t3 := Tryd.underlying3
  a3 := Tryd.isAgg3
  z3 := Tryd.sizeOf3
  v3 := Tryd.zeroValue3
  t4 := Tryd.underlying4
  a4 := Tryd.isAgg4
  z4 := Tryd.sizeOf4
  v4 := Tryd.zeroValue4
  t5 := Tryd.underlying5
  a5 := Tryd.isAgg5
  z5 := Tryd.sizeOf5
  v5 := Tryd.zeroValue5
  t9 := Tryd.underlying9
  a9 := Tryd.isAgg9
  z9 := Tryd.sizeOf9
  v9 := Tryd.zeroValue9
  t20 := Tryd.underlying20
  a20 := Tryd.isAgg20
  z20 := Tryd.sizeOf20
  v20 := Tryd.zeroValue20
  t37 := Tryd.underlying22
  a37 := Tryd.isAgg22
  z37 := Tryd.sizeOf22
  v37 := Tryd.zeroValue22
  t46 := Tryd.underlying103
  a46 := Tryd.isAgg103
  z46 := Tryd.sizeOf103
  v46 := Tryd.zeroValue103
  t51 := Tryd.underlying174
  a51 := Tryd.isAgg174
  z51 := Tryd.sizeOf174
  v51 := Tryd.zeroValue174
  t53 := Tryd.underlying35
  a53 := Tryd.isAgg35
  z53 := Tryd.sizeOf35
  v53 := Tryd.zeroValue35
  t171 := Tryd.underlying193
  a171 := Tryd.isAgg193
  z171 := Tryd.sizeOf193
  v171 := Tryd.zeroValue193
  t173 := Tryd.underlying195
  a173 := Tryd.isAgg195
  z173 := Tryd.sizeOf195
  v173 := Tryd.zeroValue195
  t212 := Tryd.underlying199
  a212 := Tryd.isAgg199
  z212 := Tryd.sizeOf199
  v212 := Tryd.zeroValue199
  t213 := Tryd.underlying200
  a213 := Tryd.isAgg200
  z213 := Tryd.sizeOf200
  t232 := Tryd.underlying207
  a232 := Tryd.isAgg207
  z232 := Tryd.sizeOf207
  v232 := Tryd.zeroValue207
  t233 := Tryd.underlying208
  a233 := Tryd.isAgg208
  z233 := Tryd.sizeOf208
  v233 := Tryd.zeroValue208
  g17 := by kernel_rfl
  g18 := by kernel_rfl
  g19 := by kernel_rfl }
open Go.RowKit Go.Sort Go.Lib in
/-- THE ROAD WITHOUT THE TABLE: 0 <= i < 100: two constants are read, nothing is laid: no premise on the world, and the world is as it was. (LAID: no walk: one application.) -/
theorem Tryd.internal_strconv_FormatInt_10_small (i : Nat) (hi : i < 100) (w : World) :
    Calls Tryd.prog 79 #[.int .i64 i, .int .i64 10] w fun e w' => e = .returned (.string ⟨(Lib.decDigits i).toArray⟩) ∧ w' = w := Any.internal_strconv_FormatInt_10_small Tryd.lays246 i hi w
def Tryd.laysM243_ren : Go.Shelf.Ren := ⟨fun | 243 => 74 | 246 => 79 | 283 => 84 | 284 => 85 | 285 => 86 | 286 => 87 | 129 => 91 | 317 => 90 | 318 => 92 | 319 => 93 | 320 => 94 | 337 => 95 | 338 => 96 | n => n, fun | 3 => 3 | 9 => 9 | 2 => 2 | 4 => 4 | 171 => 193 | 0 => 0 | 53 => 35 | 37 => 22 | 5 => 5 | 173 => 195 | 212 => 199 | 51 => 174 | 20 => 20 | 213 => 200 | 46 => 103 | 232 => 207 | 233 => 208 | n => n, fun | 17 => 4 | 18 => 7 | 19 => 8 | n => n⟩
theorem Tryd.laysM243 : Go.Proofs.LaysM.n243 Tryd.prog Tryd.laysM243_ren := {
  mixed := by kernel_rfl
  f129 := Tryd.func91.trans (congrArg some (by kernel_rfl))
  f243 := Tryd.func74.trans (congrArg some (by kernel_rfl))
  f246 := Tryd.func79.trans (congrArg some (by kernel_rfl))
  f283 := Tryd.func84.trans (congrArg some (by kernel_rfl))
  f284 := Tryd.func85.trans (congrArg some (by kernel_rfl))
  f285 := Tryd.func86.trans (congrArg some (by kernel_rfl))
  f286 := Tryd.func87.trans (congrArg some (by kernel_rfl))
  f317 := Tryd.func90.trans (congrArg some (by kernel_rfl))
  f318 := Tryd.func92.trans (congrArg some (by kernel_rfl))
  f319 := Tryd.func93.trans (congrArg some (by kernel_rfl))
  f320 := Tryd.func94.trans (congrArg some (by kernel_rfl))
  f337 := Tryd.func95.trans (congrArg some (by kernel_rfl))
  f338 := Tryd.func96.trans (congrArg some (by kernel_rfl))
  t0 := Tryd.underlying0
  a0 := Tryd.isAgg0
  z0 := Tryd.sizeOf0
  v0 := Tryd.zeroValue0
  t2 := Tryd.underlying2
  a2 := Tryd.isAgg2
  z2 := Tryd.sizeOf2
  v2 := Tryd.zeroValue2
  t3 := Tryd.underlying3
  a3 := Tryd.isAgg3
  z3 := Tryd.sizeOf3
  v3 := Tryd.zeroValue3
  t4 := Tryd.underlying4
  a4 := Tryd.isAgg4
  z4 := Tryd.sizeOf4
  v4 := Tryd.zeroValue4
  t5 := Tryd.underlying5
  a5 := Tryd.isAgg5
  z5 := Tryd.sizeOf5
  v5 := Tryd.zeroValue5
  t9 := Tryd.underlying9
  a9 := Tryd.isAgg9
  z9 := Tryd.sizeOf9
  v9 := Tryd.zeroValue9
  t20 := Tryd.underlying20
  a20 := Tryd.isAgg20
  z20 := Tryd.sizeOf20
  v20 := Tryd.zeroValue20
  t37 := Tryd.underlying22
  a37 := Tryd.isAgg22
  z37 := Tryd.sizeOf22
  v37 := Tryd.zeroValue22
  t46 := Tryd.underlying103
  a46 := Tryd.isAgg103
  z46 := Tryd.sizeOf103
  v46 := Tryd.zeroValue103
  t51 := Tryd.underlying174
  a51 := Tryd.isAgg174
  z51 := Tryd.sizeOf174
  v51 := Tryd.zeroValue174
  t53 := Tryd.underlying35
  a53 := Tryd.isAgg35
  z53 := Tryd.sizeOf35
  v53 := Tryd.zeroValue35
  t171 := Tryd.underlying193
  a171 := Tryd.isAgg193
  z171 := Tryd.sizeOf193
  v171 := Tryd.zeroValue193
  t173 := Tryd.underlying195
  a173 := Tryd.isAgg195
  z173 := Tryd.sizeOf195
  v173 := Tryd.zeroValue195
  t212 := Tryd.underlying199
  a212 := Tryd.isAgg199
  z212 := Tryd.sizeOf199
  v212 := Tryd.zeroValue199
  t213 := Tryd.underlying200
  a213 := Tryd.isAgg200
  z213 := Tryd.sizeOf200
  t232 := Tryd.underlying207
  a232 := Tryd.isAgg207
  z232 := Tryd.sizeOf207
  v232 := Tryd.zeroValue207
  t233 := Tryd.underlying208
  a233 := Tryd.isAgg208
  z233 := Tryd.sizeOf208
  v233 := Tryd.zeroValue208
  g17 := by kernel_rfl
  g18 := by kernel_rfl
  g19 := by kernel_rfl
  i0 := by kernel_rfl
  i2 := by kernel_rfl
  i3 := by kernel_rfl
  i4 := by kernel_rfl
  i5 := by kernel_rfl
  i9 := by kernel_rfl
  i20 := by kernel_rfl
  i37 := by kernel_rfl
  i46 := by kernel_rfl
  i51 := by kernel_rfl
  i53 := by kernel_rfl
  i171 := by kernel_rfl
  i173 := by kernel_rfl
  i212 := by kernel_rfl
  i232 := by kernel_rfl
  i233 := by kernel_rfl
  m17 := by kernel_rfl
  m18 := by kernel_rfl
  m19 := by kernel_rfl }
open Go.RowKit Go.Sort Go.Lib in
/-- internal/strconv.Itoa: "Itoa is equivalent to FormatInt(int64(i), 10).": i's decimal numeral, for every int. (LAID: no walk: one application.) -/
theorem Tryd.internal_strconv_Itoa (n : Int) (h0 : -9223372036854775808 ≤ n) (h1 : n ≤ 9223372036854775807) (w : World) (htab : Lib.TabIs Tryd.prog w "internal/strconv.uint64pow10" .u64 Lib.pow10Tab) :
    Calls Tryd.prog 74 #[.int .i64 n] w fun e w' => e = .returned (.string ⟨(Lib.itoa n).toArray⟩) ∧ ∃ k os, w' = grow (w.drewN k) os := Any.internal_strconv_Itoa Tryd.laysM243 n h0 h1 w htab
def Tryd.lays243_ren : Go.Shelf.Ren := ⟨fun | 243 => 74 | 246 => 79 | 283 => 84 | 284 => 85 | 285 => 86 | 286 => 87 | 129 => 91 | 317 => 90 | 318 => 92 | 319 => 93 | 320 => 94 | 337 => 95 | 338 => 96 | n => n, fun | 3 => 3 | 9 => 9 | 2 => 2 | 4 => 4 | 171 => 193 | 0 => 0 | 53 => 35 | 37 => 22 | 5 => 5 | 173 => 195 | 212 => 199 | 51 => 174 | 20 => 20 | 213 => 200 | 46 => 103 | 232 => 207 | 233 => 208 | n => n, fun | 17 => 4 | 18 => 7 | 19 => 8 | n => n⟩
theorem Tryd.lays243 : Go.Proofs.Lays.n243 Tryd.prog Tryd.lays243_ren := {
  mixed := by kernel_rfl
  f129 := Tryd.func91.trans (congrArg some (by kernel_rfl))
  f243 := Tryd.func74.trans (congrArg some (by kernel_rfl))
  f246 := Tryd.func79.trans (congrArg some (by kernel_rfl))
  f283 := Tryd.func84.trans (congrArg some (by kernel_rfl))
  f284 := Tryd.func85.trans (congrArg some (by kernel_rfl))
  f285 := Tryd.func86.trans (congrArg some (by kernel_rfl))
  f286 := Tryd.func87.trans (congrArg some (by kernel_rfl))
  f317 := Tryd.func90.trans (congrArg some (by kernel_rfl))
  f318 := Tryd.func92.trans (congrArg some (by kernel_rfl))
  f319 := Tryd.func93.trans (congrArg some (by kernel_rfl))
  f320 := Tryd.func94.trans (congrArg some (by kernel_rfl))
  f337 := Tryd.func95.trans (congrArg some (by kernel_rfl))
  f338 := Tryd.func96.trans (congrArg some (by kernel_rfl))
  t0 := Tryd.underlying0
  a0 := Tryd.isAgg0
  z0 := Tryd.sizeOf0
  v0 := Tryd.zeroValue0
  t2 := Tryd.underlying2
  a2 := Tryd.isAgg2
  z2 := Tryd.sizeOf2
  v2 := Tryd.zeroValue2
  t3 := Tryd.underlying3
  a3 := Tryd.isAgg3
  z3 := Tryd.sizeOf3
  v3 := Tryd.zeroValue3
  t4 := Tryd.underlying4
  a4 := Tryd.isAgg4
  z4 := Tryd.sizeOf4
  v4 := Tryd.zeroValue4
  t5 := Tryd.underlying5
  a5 := Tryd.isAgg5
  z5 := Tryd.sizeOf5
  v5 := Tryd.zeroValue5
  t9 := Tryd.underlying9
  a9 := Tryd.isAgg9
  z9 := Tryd.sizeOf9
  v9 := Tryd.zeroValue9
  t20 := Tryd.underlying20
  a20 := Tryd.isAgg20
  z20 := Tryd.sizeOf20
  v20 := Tryd.zeroValue20
  t37 := Tryd.underlying22
  a37 := Tryd.isAgg22
  z37 := Tryd.sizeOf22
  v37 := Tryd.zeroValue22
  t46 := Tryd.underlying103
  a46 := Tryd.isAgg103
  z46 := Tryd.sizeOf103
  v46 := Tryd.zeroValue103
  t51 := Tryd.underlying174
  a51 := Tryd.isAgg174
  z51 := Tryd.sizeOf174
  v51 := Tryd.zeroValue174
  t53 := Tryd.underlying35
  a53 := Tryd.isAgg35
  z53 := Tryd.sizeOf35
  v53 := Tryd.zeroValue35
  t171 := Tryd.underlying193
  a171 := Tryd.isAgg193
  z171 := Tryd.sizeOf193
  v171 := Tryd.zeroValue193
  t173 := Tryd.underlying195
  a173 := Tryd.isAgg195
  z173 := Tryd.sizeOf195
  v173 := Tryd.zeroValue195
  t212 := Tryd.underlying199
  a212 := Tryd.isAgg199
  z212 := Tryd.sizeOf199
  v212 := Tryd.zeroValue199
  t213 := Tryd.underlying200
  a213 := Tryd.isAgg200
  z213 := Tryd.sizeOf200
  t232 := Tryd.underlying207
  a232 := Tryd.isAgg207
  z232 := Tryd.sizeOf207
  v232 := Tryd.zeroValue207
  t233 := Tryd.underlying208
  a233 := Tryd.isAgg208
  z233 := Tryd.sizeOf208
  v233 := Tryd.zeroValue208
  g17 := by kernel_rfl
  g18 := by kernel_rfl
  g19 := by kernel_rfl }
open Go.RowKit Go.Sort Go.Lib in
/-- THE ROAD WITHOUT THE TABLE: 0 <= i < 100. (LAID: no walk: one application.) -/
theorem Tryd.internal_strconv_Itoa_small (i : Nat) (hi : i < 100) (w : World) :
    Calls Tryd.prog 74 #[.int .i64 i] w fun e w' => e = .returned (.string ⟨(Lib.decDigits i).toArray⟩) ∧ w' = w := Any.internal_strconv_Itoa_small Tryd.lays243 i hi w
def Tryd.laysM171_ren : Go.Shelf.Ren := ⟨fun | 171 => 57 | 243 => 74 | 246 => 79 | 283 => 84 | 284 => 85 | 285 => 86 | 286 => 87 | 129 => 91 | 317 => 90 | 318 => 92 | 319 => 93 | 320 => 94 | 337 => 95 | 338 => 96 | n => n, fun | 3 => 3 | 9 => 9 | 2 => 2 | 4 => 4 | 171 => 193 | 0 => 0 | 53 => 35 | 37 => 22 | 5 => 5 | 173 => 195 | 212 => 199 | 51 => 174 | 20 => 20 | 213 => 200 | 46 => 103 | 232 => 207 | 233 => 208 | n => n, fun | 17 => 4 | 18 => 7 | 19 => 8 | n => n⟩
theorem Tryd.laysM171 : Go.Proofs.LaysM.n171 Tryd.prog Tryd.laysM171_ren := {
  mixed := by kernel_rfl
  f129 := Tryd.func91.trans (congrArg some (by kernel_rfl))
  f171 := Tryd.func57.trans (congrArg some (by kernel_rfl))
  f243 := Tryd.func74.trans (congrArg some (by kernel_rfl))
  f246 := Tryd.func79.trans (congrArg some (by kernel_rfl))
  f283 := Tryd.func84.trans (congrArg some (by kernel_rfl))
  f284 := Tryd.func85.trans (congrArg some (by kernel_rfl))
  f285 := Tryd.func86.trans (congrArg some (by kernel_rfl))
  f286 := Tryd.func87.trans (congrArg some (by kernel_rfl))
  f317 := Tryd.func90.trans (congrArg some (by kernel_rfl))
  f318 := Tryd.func92.trans (congrArg some (by kernel_rfl))
  f319 := Tryd.func93.trans (congrArg some (by kernel_rfl))
  f320 := Tryd.func94.trans (congrArg some (by kernel_rfl))
  f337 := Tryd.func95.trans (congrArg some (by kernel_rfl))
  f338 := Tryd.func96.trans (congrArg some (by kernel_rfl))
  t0 := Tryd.underlying0
  a0 := Tryd.isAgg0
  z0 := Tryd.sizeOf0
  v0 := Tryd.zeroValue0
  t2 := Tryd.underlying2
  a2 := Tryd.isAgg2
  z2 := Tryd.sizeOf2
  v2 := Tryd.zeroValue2
  t3 := Tryd.underlying3
  a3 := Tryd.isAgg3
  z3 := Tryd.sizeOf3
  v3 := Tryd.zeroValue3
  t4 := Tryd.underlying4
  a4 := Tryd.isAgg4
  z4 := Tryd.sizeOf4
  v4 := Tryd.zeroValue4
  t5 := Tryd.underlying5
  a5 := Tryd.isAgg5
  z5 := Tryd.sizeOf5
  v5 := Tryd.zeroValue5
  t9 := Tryd.underlying9
  a9 := Tryd.isAgg9
  z9 := Tryd.sizeOf9
  v9 := Tryd.zeroValue9
  t20 := Tryd.underlying20
  a20 := Tryd.isAgg20
  z20 := Tryd.sizeOf20
  v20 := Tryd.zeroValue20
  t37 := Tryd.underlying22
  a37 := Tryd.isAgg22
  z37 := Tryd.sizeOf22
  v37 := Tryd.zeroValue22
  t46 := Tryd.underlying103
  a46 := Tryd.isAgg103
  z46 := Tryd.sizeOf103
  v46 := Tryd.zeroValue103
  t51 := Tryd.underlying174
  a51 := Tryd.isAgg174
  z51 := Tryd.sizeOf174
  v51 := Tryd.zeroValue174
  t53 := Tryd.underlying35
  a53 := Tryd.isAgg35
  z53 := Tryd.sizeOf35
  v53 := Tryd.zeroValue35
  t171 := Tryd.underlying193
  a171 := Tryd.isAgg193
  z171 := Tryd.sizeOf193
  v171 := Tryd.zeroValue193
  t173 := Tryd.underlying195
  a173 := Tryd.isAgg195
  z173 := Tryd.sizeOf195
  v173 := Tryd.zeroValue195
  t212 := Tryd.underlying199
  a212 := Tryd.isAgg199
  z212 := Tryd.sizeOf199
  v212 := Tryd.zeroValue199
  t213 := Tryd.underlying200
  a213 := Tryd.isAgg200
  z213 := Tryd.sizeOf200
  t232 := Tryd.underlying207
  a232 := Tryd.isAgg207
  z232 := Tryd.sizeOf207
  v232 := Tryd.zeroValue207
  t233 := Tryd.underlying208
  a233 := Tryd.isAgg208
  z233 := Tryd.sizeOf208
  v233 := Tryd.zeroValue208
  g17 := by kernel_rfl
  g18 := by kernel_rfl
  g19 := by kernel_rfl
  i0 := by kernel_rfl
  i2 := by kernel_rfl
  i3 := by kernel_rfl
  i4 := by kernel_rfl
  i5 := by kernel_rfl
  i9 := by kernel_rfl
  i20 := by kernel_rfl
  i37 := by kernel_rfl
  i46 := by kernel_rfl
  i51 := by kernel_rfl
  i53 := by kernel_rfl
  i171 := by kernel_rfl
  i173 := by kernel_rfl
  i212 := by kernel_rfl
  i232 := by kernel_rfl
  i233 := by kernel_rfl
  m17 := by kernel_rfl
  m18 := by kernel_rfl
  m19 := by kernel_rfl }
open Go.RowKit Go.Sort Go.Lib in
/-- strconv.Itoa: "Itoa is equivalent to FormatInt(int64(i), 10).": i's DECIMAL NUMERAL ('Lib.itoa': a '-' where i is negative, then the digits), FOR EVERY int. The world behind the call: the world before it, new blocks behind the heap (the library's 'var a [24]byte'), draws. (LAID: no walk: one application.) -/
theorem Tryd.strconv_Itoa (n : Int) (h0 : -9223372036854775808 ≤ n) (h1 : n ≤ 9223372036854775807) (w : World) (htab : Lib.TabIs Tryd.prog w "internal/strconv.uint64pow10" .u64 Lib.pow10Tab) :
    Calls Tryd.prog 57 #[.int .i64 n] w fun e w' => e = .returned (.string ⟨(Lib.itoa n).toArray⟩) ∧ ∃ k os, w' = grow (w.drewN k) os := Any.strconv_Itoa Tryd.laysM171 n h0 h1 w htab
def Tryd.lays171_ren : Go.Shelf.Ren := ⟨fun | 171 => 57 | 243 => 74 | 246 => 79 | 283 => 84 | 284 => 85 | 285 => 86 | 286 => 87 | 129 => 91 | 317 => 90 | 318 => 92 | 319 => 93 | 320 => 94 | 337 => 95 | 338 => 96 | n => n, fun | 3 => 3 | 9 => 9 | 2 => 2 | 4 => 4 | 171 => 193 | 0 => 0 | 53 => 35 | 37 => 22 | 5 => 5 | 173 => 195 | 212 => 199 | 51 => 174 | 20 => 20 | 213 => 200 | 46 => 103 | 232 => 207 | 233 => 208 | n => n, fun | 17 => 4 | 18 => 7 | 19 => 8 | n => n⟩
theorem Tryd.lays171 : Go.Proofs.Lays.n171 Tryd.prog Tryd.lays171_ren := {
  mixed := by kernel_rfl
  f129 := Tryd.func91.trans (congrArg some (by kernel_rfl))
  f171 := Tryd.func57.trans (congrArg some (by kernel_rfl))
  f243 := Tryd.func74.trans (congrArg some (by kernel_rfl))
  f246 := Tryd.func79.trans (congrArg some (by kernel_rfl))
  f283 := Tryd.func84.trans (congrArg some (by kernel_rfl))
  f284 := Tryd.func85.trans (congrArg some (by kernel_rfl))
  f285 := Tryd.func86.trans (congrArg some (by kernel_rfl))
  f286 := Tryd.func87.trans (congrArg some (by kernel_rfl))
  f317 := Tryd.func90.trans (congrArg some (by kernel_rfl))
  f318 := Tryd.func92.trans (congrArg some (by kernel_rfl))
  f319 := Tryd.func93.trans (congrArg some (by kernel_rfl))
  f320 := Tryd.func94.trans (congrArg some (by kernel_rfl))
  f337 := Tryd.func95.trans (congrArg some (by kernel_rfl))
  f338 := Tryd.func96.trans (congrArg some (by kernel_rfl))
  t0 := Tryd.underlying0
  a0 := Tryd.isAgg0
  z0 := Tryd.sizeOf0
  v0 := Tryd.zeroValue0
  t2 := Tryd.underlying2
  a2 := Tryd.isAgg2
  z2 := Tryd.sizeOf2
  v2 := Tryd.zeroValue2
  t3 := Tryd.underlying3
  a3 := Tryd.isAgg3
  z3 := Tryd.sizeOf3
  v3 := Tryd.zeroValue3
  t4 := Tryd.underlying4
  a4 := Tryd.isAgg4
  z4 := Tryd.sizeOf4
  v4 := Tryd.zeroValue4
  t5 := Tryd.underlying5
  a5 := Tryd.isAgg5
  z5 := Tryd.sizeOf5
  v5 := Tryd.zeroValue5
  t9 := Tryd.underlying9
  a9 := Tryd.isAgg9
  z9 := Tryd.sizeOf9
  v9 := Tryd.zeroValue9
  t20 := Tryd.underlying20
  a20 := Tryd.isAgg20
  z20 := Tryd.sizeOf20
  v20 := Tryd.zeroValue20
  t37 := Tryd.underlying22
  a37 := Tryd.isAgg22
  z37 := Tryd.sizeOf22
  v37 := Tryd.zeroValue22
  t46 := Tryd.underlying103
  a46 := Tryd.isAgg103
  z46 := Tryd.sizeOf103
  v46 := Tryd.zeroValue103
  t51 := Tryd.underlying174
  a51 := Tryd.isAgg174
  z51 := Tryd.sizeOf174
  v51 := Tryd.zeroValue174
  t53 := Tryd.underlying35
  a53 := Tryd.isAgg35
  z53 := Tryd.sizeOf35
  v53 := Tryd.zeroValue35
  t171 := Tryd.underlying193
  a171 := Tryd.isAgg193
  z171 := Tryd.sizeOf193
  v171 := Tryd.zeroValue193
  t173 := Tryd.underlying195
  a173 := Tryd.isAgg195
  z173 := Tryd.sizeOf195
  v173 := Tryd.zeroValue195
  t212 := Tryd.underlying199
  a212 := Tryd.isAgg199
  z212 := Tryd.sizeOf199
  v212 := Tryd.zeroValue199
  t213 := Tryd.underlying200
  a213 := Tryd.isAgg200
  z213 := Tryd.sizeOf200
  t232 := Tryd.underlying207
  a232 := Tryd.isAgg207
  z232 := Tryd.sizeOf207
  v232 := Tryd.zeroValue207
  t233 := Tryd.underlying208
  a233 := Tryd.isAgg208
  z233 := Tryd.sizeOf208
  v233 := Tryd.zeroValue208
  g17 := by kernel_rfl
  g18 := by kernel_rfl
  g19 := by kernel_rfl }
open Go.RowKit Go.Sort Go.Lib in
/-- THE ROAD WITHOUT THE TABLE: 0 <= i < 100: NO PREMISE ON THE WORLD, AND THE WORLD IS AS IT WAS: a row that keeps its argument in that range need list no table ('laid = []'). (LAID: no walk: one application.) -/
theorem Tryd.strconv_Itoa_small (i : Nat) (hi : i < 100) (w : World) :
    Calls Tryd.prog 57 #[.int .i64 i] w fun e w' => e = .returned (.string ⟨(Lib.decDigits i).toArray⟩) ∧ w' = w := Any.strconv_Itoa_small Tryd.lays171 i hi w
def Tryd.laysBin42_ren : Go.Shelf.Ren := ⟨fun | 42 => 119 | n => n, fun | 37 => 140 | 22 => 22 | 33 => 35 | 0 => 0 | 5 => 5 | 45 => 103 | n => n, fun | n => n⟩
theorem Tryd.laysBin42 : Go.Proofs.LaysBin.n42 Tryd.prog Tryd.laysBin42_ren := {
  mixed := by kernel_rfl
  f42 := Tryd.func119.trans (congrArg some (by kernel_rfl))
  t0 := Tryd.underlying0
  a0 := Tryd.isAgg0
  z0 := Tryd.sizeOf0
  v0 := Tryd.zeroValue0
  i0 := by kernel_rfl
  t5 := Tryd.underlying5
  a5 := Tryd.isAgg5
  z5 := Tryd.sizeOf5
  v5 := Tryd.zeroValue5
  i5 := by kernel_rfl
  t22 := Tryd.underlying22
  a22 := Tryd.isAgg22
  z22 := Tryd.sizeOf22
  v22 := Tryd.zeroValue22
  i22 := by kernel_rfl
  t33 := Tryd.underlying35
  a33 := Tryd.isAgg35
  z33 := Tryd.sizeOf35
  v33 := Tryd.zeroValue35
  i33 := by kernel_rfl
  t37 := Tryd.underlying140
  a37 := Tryd.isAgg140
  z37 := Tryd.sizeOf140
  v37 := Tryd.zeroValue140
  i37 := by kernel_rfl
  t45 := Tryd.underlying103
  a45 := Tryd.isAgg103
  z45 := Tryd.sizeOf103
  v45 := Tryd.zeroValue103
  i45 := by kernel_rfl }
open Go.RowKit in
/-- binary.BigEndian.Uint64: "Uint64 returns the uint64 representation of b[0:8].": THE NUMBER THAT THE FIRST 8 BYTES SPELL, the greatest byte first ('Lib.beNat'). Of what was there nothing has turned (the receiver, an empty struct, is laid in a new block without cells; the statement's order is drawn). (LAID: no walk: one application.) -/
theorem Tryd.binary_BE_Uint64 (g o n c : Nat) (b0 b1 b2 b3 b4 b5 b6 b7 : UInt8) (w : World) (hn : 8 ≤ n) (c0 : w.cell? ⟨g, o, none⟩ = some (.int .u8 b0.toNat)) (c1 : w.cell? ⟨g, o + 1, none⟩ = some (.int .u8 b1.toNat)) (c2 : w.cell? ⟨g, o + 2, none⟩ = some (.int .u8 b2.toNat)) (c3 : w.cell? ⟨g, o + 3, none⟩ = some (.int .u8 b3.toNat)) (c4 : w.cell? ⟨g, o + 4, none⟩ = some (.int .u8 b4.toNat)) (c5 : w.cell? ⟨g, o + 5, none⟩ = some (.int .u8 b5.toNat)) (c6 : w.cell? ⟨g, o + 6, none⟩ = some (.int .u8 b6.toNat)) (c7 : w.cell? ⟨g, o + 7, none⟩ = some (.int .u8 b7.toNat)) :
    Calls Tryd.prog 119 #[.agg #[], .slice (some ⟨g, o, none⟩) n c] w fun e w' => e = .returned (.int .u64 (Lib.beNat [b0, b1, b2, b3, b4, b5, b6, b7])) ∧ Below w.heap.size w w' := Any.binary_BE_Uint64 Tryd.laysBin42 g o n c b0 b1 b2 b3 b4 b5 b6 b7 w hn c0 c1 c2 c3 c4 c5 c6 c7
open Go.RowKit in
/-- binary.BigEndian.Uint64, b SHORTER THAN 8: IT PANICS: Go's 'runtime error: index out of range [7] with length n' ('Lib.boundsPanicked'). THE WORLD: the receiver's new block without cells, and the draw of the panic's flag. (LAID: no walk: one application.) -/
theorem Tryd.binary_BE_Uint64_panics (ao : Option Addr) (n c : Nat) (w : World) (hn : n < 8) (hnil : ao = none → n = 0) :
    Calls Tryd.prog 119 #[.agg #[], .slice ao n c] w fun e w' => Lib.boundsPanicked Tryd.prog 7 n e ∧ w' = (w.alloc (.cells #[] 140)).drew := Any.binary_BE_Uint64_panics Tryd.laysBin42 ao n c w hn hnil
open Go.RowKit in
/-- binary.BigEndian.Uint64, ITS PREMISES 'open_ints'' CONCLUSION TO THE LETTER: a slice at WHATEVER address a, the numbers zs that its cells hold: THE NUMBER THAT THE FIRST 8 SPELL ('Lib.beZ'). (LAID: no walk: one application.) -/
theorem Tryd.binary_BE_Uint64_z (a : Addr) (n c : Nat) (zs : List Int) (w : World) (hn : 8 ≤ n) (hl : 8 ≤ zs.length) (hcell : ∀ i, i < zs.length → w.cell? (a.add i) = some (.int .u8 (zs.getD i 0))) (hw : ∀ z ∈ zs, (Lit.int .u8 z).wf = true) :
    Calls Tryd.prog 119 #[.agg #[], .slice (some a) n c] w fun e w' => e = .returned (.int .u64 (Lib.beZ (zs.take 8))) ∧ Below w.heap.size w w' := Any.binary_BE_Uint64_z Tryd.laysBin42 a n c zs w hn hl hcell hw
def Tryd.lays197_ren : Go.Shelf.Ren := ⟨fun | 197 => 80 | 260 => 88 | n => n, fun | 9 => 9 | 21 => 21 | 3 => 3 | 4 => 4 | 5 => 5 | 105 => 189 | 119 => 202 | 0 => 0 | 46 => 103 | 139 => 205 | 138 => 204 | n => n, fun | 3 => 5 | 4 => 6 | n => n⟩
theorem Tryd.lays197 : Go.Proofs.Lays.n197 Tryd.prog Tryd.lays197_ren := {
  mixed := by kernel_rfl
  f197 := Tryd.func80.trans (congrArg some (by kernel_rfl))
  f260 := Tryd.func88.trans (congrArg some (by kernel_rfl))
  t0 := Tryd.underlying0
  a0 := Tryd.isAgg0
  z0 := Tryd.sizeOf0
  v0 := Tryd.zeroValue0
  t3 := Tryd.underlying3
  a3 := Tryd.isAgg3
  z3 := Tryd.sizeOf3
  v3 := Tryd.zeroValue3
  t4 := Tryd.underlying4
  a4 := Tryd.isAgg4
  z4 := Tryd.sizeOf4
  v4 := Tryd.zeroValue4
  t5 := Tryd.underlying5
  a5 := Tryd.isAgg5
  z5 := Tryd.sizeOf5
  v5 := Tryd.zeroValue5
  t9 := Tryd.underlying9
  a9 := Tryd.isAgg9
  z9 := Tryd.sizeOf9
  v9 := Tryd.zeroValue9
  t21 := Tryd.underlying21
  a21 := Tryd.isAgg21
  z21 := Tryd.sizeOf21
  v21 := Tryd.zeroValue21
  t46 := Tryd.underlying103
  a46 := Tryd.isAgg103
  z46 := Tryd.sizeOf103
  v46 := Tryd.zeroValue103
  t105 := Tryd.underlying189
  a105 := Tryd.isAgg189
  z105 := Tryd.sizeOf189
  v105 := Tryd.zeroValue189
  t119 := Tryd.underlying202
  a119 := Tryd.isAgg202
  z119 := Tryd.sizeOf202
  t138 := Tryd.underlying204
  a138 := Tryd.isAgg204
  z138 := Tryd.sizeOf204
  v138 := Tryd.zeroValue204
  t139 := Tryd.underlying205
  a139 := Tryd.isAgg205
  z139 := Tryd.sizeOf205
  v139 := Tryd.zeroValue205
  g3 := by kernel_rfl
  g4 := by kernel_rfl }
open Go.RowKit Go.Lib in
/-- unicode/utf8.DecodeRuneInString: "DecodeRuneInString is like DecodeRune but its input is a string.": ("DecodeRune unpacks the first UTF-8 encoding in p and returns the rune and its width in bytes."): WHERE s BEGINS WITH AN ASCII BYTE x: (x, 1). (LAID: no walk: one application.) -/
theorem Tryd.utf8_DecodeRuneInString_ascii (s : ByteArray) (x : UInt8) (w : World) (h0 : s.data.toList[0]? = some x) (hx : x.toNat < 128) :
    Calls Tryd.prog 80 #[.string s] w fun e w' => e = .returned (.tuple #[.int .i32 x.toNat, .int .i64 1]) ∧ w' = w := Any.utf8_DecodeRuneInString_ascii Tryd.lays197 s x w h0 hx
def Tryd.lays260_ren : Go.Shelf.Ren := ⟨fun | 260 => 88 | n => n, fun | 9 => 9 | 21 => 21 | 3 => 3 | 4 => 4 | 5 => 5 | 119 => 202 | 0 => 0 | 46 => 103 | 139 => 205 | 138 => 204 | n => n, fun | 3 => 5 | 4 => 6 | n => n⟩
theorem Tryd.lays260 : Go.Proofs.Lays.n260 Tryd.prog Tryd.lays260_ren := {
  mixed := by kernel_rfl
  f260 := Tryd.func88.trans (congrArg some (by kernel_rfl))
  t0 := Tryd.underlying0
  a0 := Tryd.isAgg0
  z0 := Tryd.sizeOf0
  v0 := Tryd.zeroValue0
  t3 := Tryd.underlying3
  a3 := Tryd.isAgg3
  z3 := Tryd.sizeOf3
  v3 := Tryd.zeroValue3
  t4 := Tryd.underlying4
  a4 := Tryd.isAgg4
  z4 := Tryd.sizeOf4
  v4 := Tryd.zeroValue4
  t5 := Tryd.underlying5
  a5 := Tryd.isAgg5
  z5 := Tryd.sizeOf5
  v5 := Tryd.zeroValue5
  t9 := Tryd.underlying9
  a9 := Tryd.isAgg9
  z9 := Tryd.sizeOf9
  v9 := Tryd.zeroValue9
  t21 := Tryd.underlying21
  a21 := Tryd.isAgg21
  z21 := Tryd.sizeOf21
  v21 := Tryd.zeroValue21
  t46 := Tryd.underlying103
  a46 := Tryd.isAgg103
  z46 := Tryd.sizeOf103
  v46 := Tryd.zeroValue103
  t119 := Tryd.underlying202
  a119 := Tryd.isAgg202
  z119 := Tryd.sizeOf202
  t138 := Tryd.underlying204
  a138 := Tryd.isAgg204
  z138 := Tryd.sizeOf204
  v138 := Tryd.zeroValue204
  t139 := Tryd.underlying205
  a139 := Tryd.isAgg205
  z139 := Tryd.sizeOf205
  v139 := Tryd.zeroValue205
  g3 := by kernel_rfl
  g4 := by kernel_rfl }
open Go.RowKit Go.Lib in
theorem Tryd.utf8_decodeRuneInStringSlow (s : ByteArray) (w : World) (hT : Lib.Utf8Tabs 5 6 w) :
    Calls Tryd.prog 88 #[.string s] w fun e w' => e = .returned (.tuple #[.int .i32 (Lib.decodeGo s).1, .int .i64 (Lib.decodeGo s).2]) ∧ Below w.heap.size w w' := Any.utf8_decodeRuneInStringSlow Tryd.lays260 s w hT
open Go.RowKit Go.Lib in
/-- **unicode/utf8.DecodeRuneInString AT EVERY STRING.** (LAID: no walk: one application.) -/
theorem Tryd.utf8_DecodeRuneInString (s : ByteArray) (w : World) (hT : Lib.Utf8Tabs 5 6 w) :
    Calls Tryd.prog 80 #[.string s] w fun e w' => e = .returned (.tuple #[.int .i32 (Lib.decodeGo s).1, .int .i64 (Lib.decodeGo s).2]) ∧ Below w.heap.size w w' := Any.utf8_DecodeRuneInString Tryd.lays197 s w hT
def Tryd.lays271_ren : Go.Shelf.Ren := ⟨fun | 271 => 82 | 120 => 89 | 197 => 80 | 260 => 88 | n => n, fun | 9 => 9 | 21 => 21 | 3 => 3 | 4 => 4 | 5 => 5 | 105 => 189 | 119 => 202 | 0 => 0 | 46 => 103 | 139 => 205 | 138 => 204 | n => n, fun | 3 => 5 | 4 => 6 | n => n⟩
theorem Tryd.lays271 : Go.Proofs.Lays.n271 Tryd.prog Tryd.lays271_ren := {
  mixed := by kernel_rfl
  f120 := Tryd.func89.trans (congrArg some (by kernel_rfl))
  f197 := Tryd.func80.trans (congrArg some (by kernel_rfl))
  f260 := Tryd.func88.trans (congrArg some (by kernel_rfl))
  f271 := Tryd.func82.trans (congrArg some (by kernel_rfl))
  t0 := Tryd.underlying0
  a0 := Tryd.isAgg0
  z0 := Tryd.sizeOf0
  v0 := Tryd.zeroValue0
  t3 := Tryd.underlying3
  a3 := Tryd.isAgg3
  z3 := Tryd.sizeOf3
  v3 := Tryd.zeroValue3
  t4 := Tryd.underlying4
  a4 := Tryd.isAgg4
  z4 := Tryd.sizeOf4
  v4 := Tryd.zeroValue4
  t5 := Tryd.underlying5
  a5 := Tryd.isAgg5
  z5 := Tryd.sizeOf5
  v5 := Tryd.zeroValue5
  t9 := Tryd.underlying9
  a9 := Tryd.isAgg9
  z9 := Tryd.sizeOf9
  v9 := Tryd.zeroValue9
  t21 := Tryd.underlying21
  a21 := Tryd.isAgg21
  z21 := Tryd.sizeOf21
  v21 := Tryd.zeroValue21
  t46 := Tryd.underlying103
  a46 := Tryd.isAgg103
  z46 := Tryd.sizeOf103
  v46 := Tryd.zeroValue103
  t105 := Tryd.underlying189
  a105 := Tryd.isAgg189
  z105 := Tryd.sizeOf189
  v105 := Tryd.zeroValue189
  t119 := Tryd.underlying202
  a119 := Tryd.isAgg202
  z119 := Tryd.sizeOf202
  t138 := Tryd.underlying204
  a138 := Tryd.isAgg204
  z138 := Tryd.sizeOf204
  v138 := Tryd.zeroValue204
  t139 := Tryd.underlying205
  a139 := Tryd.isAgg205
  z139 := Tryd.sizeOf205
  v139 := Tryd.zeroValue205
  g3 := by kernel_rfl
  g4 := by kernel_rfl }
open Go.RowKit Go.Lib in
/-- **unicode/utf8.DecodeLastRuneInString AT EVERY STRING.** (LAID: no walk: one application.) -/
theorem Tryd.utf8_DecodeLastRuneInString (s : ByteArray) (w : World) (hs : s.size ≤ 9223372036854775807) (hT : Lib.Utf8Tabs 5 6 w) :
    Calls Tryd.prog 82 #[.string s] w fun e w' => e = .returned (.tuple #[.int .i32 (Lib.decodeLastL s.data.toList).1, .int .i64 (Lib.decodeLastL s.data.toList).2]) ∧ Below w.heap.size w w' := Any.utf8_DecodeLastRuneInString Tryd.lays271 s w hs hT
end Go.Proofs
