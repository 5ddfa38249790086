/-
  DERIVED: THE SHELF's CONTRACTS AT THIS DUMP, IN PLAIN WORDS (tools/lay-plain.mjs out of 'TryzShelf.lean', which tools/lay-shelf.mjs wrote): THE SAME DECLARATIONS UNDER THE SAME NAMES: 'import', 'namespace', 'open', 'def', 'theorem' AND NOTHING ELSE: no command of the shelf's: FOR A HAND-IN. Each laying: the table of numbers ('.._ren') and one theorem, a field a fact of the dump's own or the kernel's comparison; each contract: ONE APPLICATION.
-/
import Derived.Shelf.Strings.Builder1
import Derived.Shelf.Small.Utf8
import Derived.Shelf.Small.Bits
import Derived.Shelf.Strconv.Itoa0
import Derived.Shelf.Strconv.Itoa1
import Derived.Shelf.LaysM
import Derived.Shelf.Strconv.Itoa2
import Derived.Shelf.Strconv.Itoa3
import Derived.Ground.MnProg
import Derived.Shelf.Bin.LEUint32
import Derived.Shelf.Bin.LEUint64
import Derived.Shelf.Bin.ReadersZ
import Derived.Shelf.Unicode.Decode
import Derived.Shelf.Bits.Mul64
import Derived.Shelf.Unicode.DecodeSlow
import Derived.Shelf.Unicode.DecodeAny
import Derived.Test.YtfofafjemgfobaaGreatDoorProg
namespace Go.Proofs
open Go.Shelf
def Tryz.lays170_ren : Go.Shelf.Ren := ⟨fun | 170 => 75 | n => n, fun | 70 => 126 | 3 => 3 | 0 => 0 | 72 => 128 | 37 => 23 | 5 => 5 | n => n, fun | n => n⟩
theorem Tryz.lays170 : Go.Proofs.Lays.n170 Tryz.prog Tryz.lays170_ren := {
  mixed := by kernel_rfl
  f170 := Tryz.func75.trans (congrArg some (by kernel_rfl))
  t0 := Tryz.underlying0
  a0 := Tryz.isAgg0
  z0 := Tryz.sizeOf0
  v0 := Tryz.zeroValue0
  t3 := Tryz.underlying3
  a3 := Tryz.isAgg3
  z3 := Tryz.sizeOf3
  v3 := Tryz.zeroValue3
  t37 := Tryz.underlying23
  a37 := Tryz.isAgg23
  z37 := Tryz.sizeOf23
  v37 := Tryz.zeroValue23
  t70 := Tryz.underlying126
  a70 := Tryz.isAgg126
  z70 := Tryz.sizeOf126
  v70 := Tryz.zeroValue126
  t72 := Tryz.underlying128
  a72 := Tryz.isAgg128
  z72 := Tryz.sizeOf128
  v72 := Tryz.zeroValue128 }
open Go.RowKit in
/-- (*strings.Builder).Len: "Len returns the number of accumulated bytes; b.Len() == len(b.String()).": the world is as it was. (LAID: no walk: one application.) -/
theorem Tryz.Builder_Len (B b : Nat) (bs : List Value) (w : World) (h : Lib.IsBuilder 128 5 B b bs w) :
    Calls Tryz.prog 75 #[.pointer (some ⟨b, 0, none⟩)] w fun e w' => e = .returned (.int .i64 bs.length) ∧ w' = w := Any.Builder_Len Tryz.lays170 B b bs w h
def Tryz.lays169_ren : Go.Shelf.Ren := ⟨fun | 169 => 79 | n => n, fun | 70 => 126 | 9 => 9 | 0 => 0 | 72 => 128 | 37 => 23 | 127 => 196 | 3 => 3 | 5 => 5 | n => n, fun | n => n⟩
theorem Tryz.lays169 : Go.Proofs.Lays.n169 Tryz.prog Tryz.lays169_ren := {
  mixed := by kernel_rfl
  f169 := Tryz.func79.trans (congrArg some (by kernel_rfl))
  t0 := Tryz.underlying0
  a0 := Tryz.isAgg0
  z0 := Tryz.sizeOf0
  v0 := Tryz.zeroValue0
  t3 := Tryz.underlying3
  a3 := Tryz.isAgg3
  z3 := Tryz.sizeOf3
  v3 := Tryz.zeroValue3
  t9 := Tryz.underlying9
  a9 := Tryz.isAgg9
  z9 := Tryz.sizeOf9
  v9 := Tryz.zeroValue9
  t37 := Tryz.underlying23
  a37 := Tryz.isAgg23
  z37 := Tryz.sizeOf23
  v37 := Tryz.zeroValue23
  t70 := Tryz.underlying126
  a70 := Tryz.isAgg126
  z70 := Tryz.sizeOf126
  v70 := Tryz.zeroValue126
  t72 := Tryz.underlying128
  a72 := Tryz.isAgg128
  z72 := Tryz.sizeOf128
  v72 := Tryz.zeroValue128
  t127 := Tryz.underlying196
  a127 := Tryz.isAgg196
  z127 := Tryz.sizeOf196
  v127 := Tryz.zeroValue196 }
theorem Tryz.Builder_Extra_169 : Builder.Extra Tryz.prog Tryz.lays169_ren := {
  sizeBuilder := by kernel_rfl
  liesBuilder := by kernel_rfl
  t5 := Tryz.underlying5
  a5 := Tryz.isAgg5
  z5 := Tryz.sizeOf5
  v5 := Tryz.zeroValue5
  infoByte := by kernel_rfl
  cellsByte := by kernel_rfl
  sizeByte := by kernel_rfl
  neB5 := by decide }
open Go.RowKit in
/-- (*strings.Builder).String: "String returns the accumulated string.": OF A BUILDER THAT HOLDS AT LEAST ONE BYTE. ✋ THE MODEL FREEZES THOSE BYTES IN THE BUFFER (unsafe.String): a later write INTO them ends the model's run without an answer; a later append BEHIND them goes on. The statement's order of evaluation is drawn: one draw. (LAID: no walk: one application.) -/
theorem Tryz.Builder_String (B b : Nat) (l : List UInt8) (w : World) (h : Lib.IsBuilder 128 5 B b (Lib.byteCells l) w) (h0 : l ≠ []) :
    Calls Tryz.prog 79 #[.pointer (some ⟨b, 0, none⟩)] w fun e w' => e = .returned (.string ⟨l.toArray⟩) ∧ Below B w w' := Any.Builder_String Tryz.lays169 Tryz.Builder_Extra_169 B b l w h h0
open Go.RowKit in
/-- (*strings.Builder).String OF A BUILDER THAT HOLDS NO BYTE: the empty string. (Its buffer is nil, or a row of which it has taken nothing yet; where that row has NO capacity the model lays one new block for unsafe.SliceData's 'some address'.) One draw. (LAID: no walk: one application.) -/
theorem Tryz.Builder_String_empty (B b : Nat) (w : World) (h : Lib.IsBuilder 128 5 B b [] w) (hBw : B ≤ w.heap.size) :
    Calls Tryz.prog 79 #[.pointer (some ⟨b, 0, none⟩)] w fun e w' => e = .returned (.string ⟨#[]⟩) ∧ Below B w w' := Any.Builder_String_empty Tryz.lays169 Tryz.Builder_Extra_169 B b w h hBw
open Go.RowKit in
/-- (*strings.Builder).String: "String returns the accumulated string.": WHATEVER THE BUILDER HOLDS. (LAID: no walk: one application.) -/
theorem Tryz.Builder_String_any (B b : Nat) (l : List UInt8) (w : World) (h : Lib.IsBuilder 128 5 B b (Lib.byteCells l) w) (hBw : B ≤ w.heap.size) :
    Calls Tryz.prog 79 #[.pointer (some ⟨b, 0, none⟩)] w fun e w' => e = .returned (.string ⟨l.toArray⟩) ∧ Below B w w' := Any.Builder_String_any Tryz.lays169 Tryz.Builder_Extra_169 B b l w h hBw
def Tryz.lays120_ren : Go.Shelf.Ren := ⟨fun | 120 => 168 | n => n, fun | 5 => 5 | 4 => 4 | n => n, fun | n => n⟩
theorem Tryz.lays120 : Go.Proofs.Lays.n120 Tryz.prog Tryz.lays120_ren := {
  mixed := by kernel_rfl
  f120 := Tryz.func168.trans (congrArg some (by kernel_rfl))
  t4 := Tryz.underlying4
  a4 := Tryz.isAgg4
  z4 := Tryz.sizeOf4
  v4 := Tryz.zeroValue4
  t5 := Tryz.underlying5
  a5 := Tryz.isAgg5
  z5 := Tryz.sizeOf5
  v5 := Tryz.zeroValue5 }
/-- utf8.RuneStart: "RuneStart reports whether the byte could be the first byte of an encoded, possibly invalid rune. Second and subsequent bytes always have the top two bits set to 10.": IT RETURNS 'Lib.runeStart b'; the world is as it was. ('h0', 'h1': b is a byte: a caller has it of every byte that it was handed.) (LAID: no walk: one application.) -/
theorem Tryz.utf8_RuneStart (b : Int) (w : World) (h0 : 0 ≤ b) (h1 : b < 256) :
    Calls Tryz.prog 168 #[.int .u8 b] w fun e w' => e = .returned (.bool (Lib.runeStart b)) ∧ w' = w := Any.utf8_RuneStart Tryz.lays120 b w h0 h1
def Tryz.lays128_ren : Go.Shelf.Ren := ⟨fun | 128 => 244 | n => n, fun | 51 => 164 | 3 => 3 | 4 => 4 | 46 => 61 | 5 => 5 | 9 => 9 | n => n, fun | n => n⟩
theorem Tryz.lays128 : Go.Proofs.Lays.n128 Tryz.prog Tryz.lays128_ren := {
  mixed := by kernel_rfl
  f128 := Tryz.func244.trans (congrArg some (by kernel_rfl))
  t3 := Tryz.underlying3
  a3 := Tryz.isAgg3
  z3 := Tryz.sizeOf3
  v3 := Tryz.zeroValue3
  t4 := Tryz.underlying4
  a4 := Tryz.isAgg4
  z4 := Tryz.sizeOf4
  v4 := Tryz.zeroValue4
  t5 := Tryz.underlying5
  a5 := Tryz.isAgg5
  z5 := Tryz.sizeOf5
  v5 := Tryz.zeroValue5
  t9 := Tryz.underlying9
  a9 := Tryz.isAgg9
  z9 := Tryz.sizeOf9
  v9 := Tryz.zeroValue9
  t46 := Tryz.underlying61
  a46 := Tryz.isAgg61
  z46 := Tryz.sizeOf61
  v46 := Tryz.zeroValue61
  t51 := Tryz.underlying164
  a51 := Tryz.isAgg164
  z51 := Tryz.sizeOf164
  v51 := Tryz.zeroValue164 }
/-- bits.Len32: "Len32 returns the minimum number of bits required to represent x; the result is 0 for x == 0.": IT RETURNS 'Lib.bitLen x'; the world is as it was. ('h0', 'h1': x is a uint32.) (LAID: no walk: one application.) -/
theorem Tryz.bits_Len32 (x : Int) (w : World) (h0 : 0 ≤ x) (h1 : x ≤ 4294967295) :
    Calls Tryz.prog 244 #[.int .u32 x] w fun e w' => e = .returned (.int .i64 (Lib.bitLen x.toNat)) ∧ w' = w := Any.bits_Len32 Tryz.lays128 x w h0 h1
def Tryz.lays125_ren : Go.Shelf.Ren := ⟨fun | 125 => 213 | 128 => 244 | 129 => 173 | n => n, fun | 46 => 61 | 3 => 3 | 51 => 164 | 53 => 22 | 4 => 4 | 5 => 5 | 9 => 9 | n => n, fun | n => n⟩
theorem Tryz.lays125 : Go.Proofs.Lays.n125 Tryz.prog Tryz.lays125_ren := {
  mixed := by kernel_rfl
  f125 := Tryz.func213.trans (congrArg some (by kernel_rfl))
  f128 := Tryz.func244.trans (congrArg some (by kernel_rfl))
  f129 := Tryz.func173.trans (congrArg some (by kernel_rfl))
  t3 := Tryz.underlying3
  a3 := Tryz.isAgg3
  z3 := Tryz.sizeOf3
  v3 := Tryz.zeroValue3
  t4 := Tryz.underlying4
  a4 := Tryz.isAgg4
  z4 := Tryz.sizeOf4
  v4 := Tryz.zeroValue4
  t5 := Tryz.underlying5
  a5 := Tryz.isAgg5
  z5 := Tryz.sizeOf5
  v5 := Tryz.zeroValue5
  t9 := Tryz.underlying9
  a9 := Tryz.isAgg9
  z9 := Tryz.sizeOf9
  v9 := Tryz.zeroValue9
  t46 := Tryz.underlying61
  a46 := Tryz.isAgg61
  z46 := Tryz.sizeOf61
  v46 := Tryz.zeroValue61
  t51 := Tryz.underlying164
  a51 := Tryz.isAgg164
  z51 := Tryz.sizeOf164
  v51 := Tryz.zeroValue164
  t53 := Tryz.underlying22
  a53 := Tryz.isAgg22
  z53 := Tryz.sizeOf22
  v53 := Tryz.zeroValue22 }
/-- bits.Len: "Len returns the minimum number of bits required to represent x; the result is 0 for x == 0.": IT RETURNS 'Lib.bitLen x'; the world is as it was. (A uint has 64 bits in the model.) ITS CALLEE bits.Len64 IS MET BY ITS OWN CONTRACT OFF THE SHELF (lay that first). (LAID: no walk: one application.) -/
theorem Tryz.bits_Len (x : Int) (w : World) (h0 : 0 ≤ x) (h1 : x ≤ 18446744073709551615) :
    Calls Tryz.prog 213 #[.int .u64 x] w fun e w' => e = .returned (.int .i64 (Lib.bitLen x.toNat)) ∧ w' = w := Any.bits_Len Tryz.lays125 x w h0 h1
def Tryz.lays129_ren : Go.Shelf.Ren := ⟨fun | 129 => 173 | n => n, fun | 53 => 22 | 3 => 3 | 4 => 4 | 46 => 61 | 5 => 5 | 9 => 9 | n => n, fun | n => n⟩
theorem Tryz.lays129 : Go.Proofs.Lays.n129 Tryz.prog Tryz.lays129_ren := {
  mixed := by kernel_rfl
  f129 := Tryz.func173.trans (congrArg some (by kernel_rfl))
  t3 := Tryz.underlying3
  a3 := Tryz.isAgg3
  z3 := Tryz.sizeOf3
  v3 := Tryz.zeroValue3
  t4 := Tryz.underlying4
  a4 := Tryz.isAgg4
  z4 := Tryz.sizeOf4
  v4 := Tryz.zeroValue4
  t5 := Tryz.underlying5
  a5 := Tryz.isAgg5
  z5 := Tryz.sizeOf5
  v5 := Tryz.zeroValue5
  t9 := Tryz.underlying9
  a9 := Tryz.isAgg9
  z9 := Tryz.sizeOf9
  v9 := Tryz.zeroValue9
  t46 := Tryz.underlying61
  a46 := Tryz.isAgg61
  z46 := Tryz.sizeOf61
  v46 := Tryz.zeroValue61
  t53 := Tryz.underlying22
  a53 := Tryz.isAgg22
  z53 := Tryz.sizeOf22
  v53 := Tryz.zeroValue22 }
/-- bits.Len64: "Len64 returns the minimum number of bits required to represent x; the result is 0 for x == 0.": IT RETURNS 'Lib.bitLen x'; the world is as it was. ('h0', 'h1': x is a uint64.) (LAID: no walk: one application.) -/
theorem Tryz.bits_Len64 (x : Int) (w : World) (h0 : 0 ≤ x) (h1 : x ≤ 18446744073709551615) :
    Calls Tryz.prog 173 #[.int .u64 x] w fun e w' => e = .returned (.int .i64 (Lib.bitLen x.toNat)) ∧ w' = w := Any.bits_Len64 Tryz.lays129 x w h0 h1
def Tryz.lays317_ren : Go.Shelf.Ren := ⟨fun | 317 => 172 | n => n, fun | 3 => 3 | 46 => 61 | n => n, fun | n => n⟩
theorem Tryz.lays317 : Go.Proofs.Lays.n317 Tryz.prog Tryz.lays317_ren := {
  mixed := by kernel_rfl
  f317 := Tryz.func172.trans (congrArg some (by kernel_rfl))
  t3 := Tryz.underlying3
  a3 := Tryz.isAgg3
  z3 := Tryz.sizeOf3
  v3 := Tryz.zeroValue3
  t46 := Tryz.underlying61
  a46 := Tryz.isAgg61
  z46 := Tryz.sizeOf61
  v46 := Tryz.zeroValue61 }
open Go.Lib in
/-- internal/strconv.log10Pow2: "log10Pow2(x) returns ⌊log₁₀ 2**x⌋ = ⌊x * log₁₀ 2⌋.": '(x * 78913) >> 18', at an x up to 64 (a length in bits). The world is as it was. (LAID: no walk: one application.) -/
theorem Tryz.internal_strconv_log10Pow2 (x : Nat) (h : x ≤ 64) (w : World) :
    Calls Tryz.prog 172 #[.int .i64 x] w fun e w' => e = .returned (.int .i64 (Lib.l10 x)) ∧ w' = w := Any.internal_strconv_log10Pow2 Tryz.lays317 x h w
def Tryz.lays318_ren : Go.Shelf.Ren := ⟨fun | 318 => 174 | n => n, fun | 3 => 3 | 4 => 4 | n => n, fun | n => n⟩
theorem Tryz.lays318 : Go.Proofs.Lays.n318 Tryz.prog Tryz.lays318_ren := {
  mixed := by kernel_rfl
  f318 := Tryz.func174.trans (congrArg some (by kernel_rfl))
  t3 := Tryz.underlying3
  a3 := Tryz.isAgg3
  z3 := Tryz.sizeOf3
  v3 := Tryz.zeroValue3
  t4 := Tryz.underlying4
  a4 := Tryz.isAgg4
  z4 := Tryz.sizeOf4
  v4 := Tryz.zeroValue4 }
open Go.Lib in
/-- internal/strconv.bool2: "bool2 converts b to an integer: 1 for true, 0 for false." The world is as it was. (LAID: no walk: one application.) -/
theorem Tryz.internal_strconv_bool2_int (b : Bool) (w : World) :
    Calls Tryz.prog 174 #[.bool b] w fun e w' => e = .returned (.int .i64 (if b then 1 else 0)) ∧ w' = w := Any.internal_strconv_bool2_int Tryz.lays318 b w
def Tryz.lays283_ren : Go.Shelf.Ren := ⟨fun | 283 => 118 | n => n, fun | 3 => 3 | 9 => 9 | 4 => 4 | n => n, fun | n => n⟩
theorem Tryz.lays283 : Go.Proofs.Lays.n283 Tryz.prog Tryz.lays283_ren := {
  mixed := by kernel_rfl
  f283 := Tryz.func118.trans (congrArg some (by kernel_rfl))
  t3 := Tryz.underlying3
  a3 := Tryz.isAgg3
  z3 := Tryz.sizeOf3
  v3 := Tryz.zeroValue3
  t4 := Tryz.underlying4
  a4 := Tryz.isAgg4
  z4 := Tryz.sizeOf4
  v4 := Tryz.zeroValue4
  t9 := Tryz.underlying9
  a9 := Tryz.isAgg9
  z9 := Tryz.sizeOf9
  v9 := Tryz.zeroValue9 }
open Go.Lib in
/-- internal/strconv.small: "small returns the string for an i with 0 <= i < nSmalls.": i's decimal numeral. The world is as it was. (LAID: no walk: one application.) -/
theorem Tryz.internal_strconv_small (i : Nat) (h : i < 100) (w : World) :
    Calls Tryz.prog 118 #[.int .i64 i] w fun e w' => e = .returned (.string ⟨(Lib.decDigits i).toArray⟩) ∧ w' = w := Any.internal_strconv_small Tryz.lays283 i h w
def Tryz.laysM284_ren : Go.Shelf.Ren := ⟨fun | 284 => 119 | 129 => 173 | 317 => 172 | 318 => 174 | n => n, fun | 53 => 22 | 3 => 3 | 212 => 244 | 0 => 0 | 4 => 4 | 46 => 61 | 5 => 5 | 9 => 9 | n => n, fun | 17 => 4 | n => n⟩
theorem Tryz.laysM284 : Go.Proofs.LaysM.n284 Tryz.prog Tryz.laysM284_ren := {
  mixed := by kernel_rfl
  f129 := Tryz.func173.trans (congrArg some (by kernel_rfl))
  f284 := Tryz.func119.trans (congrArg some (by kernel_rfl))
  f317 := Tryz.func172.trans (congrArg some (by kernel_rfl))
  f318 := Tryz.func174.trans (congrArg some (by kernel_rfl))
  t0 := Tryz.underlying0
  a0 := Tryz.isAgg0
  z0 := Tryz.sizeOf0
  v0 := Tryz.zeroValue0
  t3 := Tryz.underlying3
  a3 := Tryz.isAgg3
  z3 := Tryz.sizeOf3
  v3 := Tryz.zeroValue3
  t4 := Tryz.underlying4
  a4 := Tryz.isAgg4
  z4 := Tryz.sizeOf4
  v4 := Tryz.zeroValue4
  t5 := Tryz.underlying5
  a5 := Tryz.isAgg5
  z5 := Tryz.sizeOf5
  v5 := Tryz.zeroValue5
  t9 := Tryz.underlying9
  a9 := Tryz.isAgg9
  z9 := Tryz.sizeOf9
  v9 := Tryz.zeroValue9
  t46 := Tryz.underlying61
  a46 := Tryz.isAgg61
  z46 := Tryz.sizeOf61
  v46 := Tryz.zeroValue61
  t53 := Tryz.underlying22
  a53 := Tryz.isAgg22
  z53 := Tryz.sizeOf22
  v53 := Tryz.zeroValue22
  t212 := Tryz.underlying244
  a212 := Tryz.isAgg244
  z212 := Tryz.sizeOf244
  v212 := Tryz.zeroValue244
  g17 := by kernel_rfl
  i0 := by kernel_rfl
  i3 := by kernel_rfl
  i4 := by kernel_rfl
  i5 := by kernel_rfl
  i9 := by kernel_rfl
  i46 := by kernel_rfl
  i53 := by kernel_rfl
  i212 := by kernel_rfl
  m17 := by kernel_rfl }
open Go.Lib in
/-- internal/strconv.numDigits, at a d that is not 0: THE NUMBER OF d's DECIMAL DIGITS. The world is as it was. (LAID: no walk: one application.) -/
theorem Tryz.internal_strconv_numDigits (u : Nat) (h1 : 1 ≤ u) (h2 : u < 18446744073709551616) (w : World) (htab : Lib.TabIs Tryz.prog w "internal/strconv.uint64pow10" .u64 Lib.pow10Tab) :
    Calls Tryz.prog 119 #[.int .u64 u] w fun e w' => e = .returned (.int .i64 (Lib.nDigits u)) ∧ w' = w := Any.internal_strconv_numDigits Tryz.laysM284 u h1 h2 w htab
def Tryz.lays285_ren : Go.Shelf.Ren := ⟨fun | 285 => 120 | n => n, fun | 37 => 23 | 53 => 22 | 3 => 3 | 4 => 4 | 51 => 164 | 9 => 9 | 5 => 5 | 0 => 0 | n => n, fun | n => n⟩
theorem Tryz.lays285 : Go.Proofs.Lays.n285 Tryz.prog Tryz.lays285_ren := {
  mixed := by kernel_rfl
  f285 := Tryz.func120.trans (congrArg some (by kernel_rfl))
  t0 := Tryz.underlying0
  a0 := Tryz.isAgg0
  z0 := Tryz.sizeOf0
  v0 := Tryz.zeroValue0
  t3 := Tryz.underlying3
  a3 := Tryz.isAgg3
  z3 := Tryz.sizeOf3
  v3 := Tryz.zeroValue3
  t4 := Tryz.underlying4
  a4 := Tryz.isAgg4
  z4 := Tryz.sizeOf4
  v4 := Tryz.zeroValue4
  t5 := Tryz.underlying5
  a5 := Tryz.isAgg5
  z5 := Tryz.sizeOf5
  v5 := Tryz.zeroValue5
  t9 := Tryz.underlying9
  a9 := Tryz.isAgg9
  z9 := Tryz.sizeOf9
  v9 := Tryz.zeroValue9
  t37 := Tryz.underlying23
  a37 := Tryz.isAgg23
  z37 := Tryz.sizeOf23
  v37 := Tryz.zeroValue23
  t51 := Tryz.underlying164
  a51 := Tryz.isAgg164
  z51 := Tryz.sizeOf164
  v51 := Tryz.zeroValue164
  t53 := Tryz.underlying22
  a53 := Tryz.isAgg22
  z53 := Tryz.sizeOf22
  v53 := Tryz.zeroValue22 }
open Go.RowKit Go.Sort Go.Lib in
/-- internal/strconv.formatBase10: "formatBase10 formats the decimal representation of u into a. The caller is responsible for ensuring that a is big enough to hold u. If a is too big, leading zeros will be filled in as needed.": THE ROW HOLDS u's DIGITS ('FmtInv .. 0 ..': every place t holds 'dg u (len - 1 - t)'); all else is as it was but for the count of draws. (LAID: no walk: one application.) -/
theorem Tryz.internal_strconv_formatBase10 (blk off cap : Nat) (u : Nat) (d : Array UInt8) (w : World) (hH : Holds (fun (b : UInt8) => Value.int .u8 (b.toNat : Int)) w blk off d) (hu : u < 10 ^ d.size) (hu64 : u < 18446744073709551616) (hsz : d.size < 4611686018427387904) :
    Calls Tryz.prog 120 #[.slice (some ⟨blk, off, none⟩) d.size cap, .int .u64 u] w fun e w' =>
      e = .returned (.tuple #[]) ∧ ∃ (n v' : Nat) (dk : Array UInt8), w' = (putRow (fun (b : UInt8) => Value.int .u8 (b.toNat : Int)) w blk off dk).drewN n ∧ FmtInv d.size u 0 v' dk := Any.internal_strconv_formatBase10 Tryz.lays285 blk off cap u d w hH hu hu64 hsz
def Tryz.laysM246_ren : Go.Shelf.Ren := ⟨fun | 246 => 63 | 283 => 118 | 284 => 119 | 285 => 120 | 286 => 121 | 129 => 173 | 317 => 172 | 318 => 174 | 319 => 175 | 320 => 176 | 337 => 229 | 338 => 230 | n => n, fun | 2 => 2 | 3 => 3 | 9 => 9 | 4 => 4 | 171 => 174 | 0 => 0 | 53 => 22 | 37 => 23 | 5 => 5 | 173 => 177 | 212 => 244 | 51 => 164 | 20 => 20 | 213 => 245 | 46 => 61 | 232 => 294 | 233 => 280 | n => n, fun | 17 => 4 | 18 => 13 | 19 => 14 | n => n⟩
theorem Tryz.laysM246 : Go.Proofs.LaysM.n246 Tryz.prog Tryz.laysM246_ren := {
  mixed := by kernel_rfl
  f129 := Tryz.func173.trans (congrArg some (by kernel_rfl))
  f246 := Tryz.func63.trans (congrArg some (by kernel_rfl))
  f283 := Tryz.func118.trans (congrArg some (by kernel_rfl))
  f284 := Tryz.func119.trans (congrArg some (by kernel_rfl))
  f285 := Tryz.func120.trans (congrArg some (by kernel_rfl))
  f286 := Tryz.func121.trans (congrArg some (by kernel_rfl))
  f317 := Tryz.func172.trans (congrArg some (by kernel_rfl))
  f318 := Tryz.func174.trans (congrArg some (by kernel_rfl))
  f319 := Tryz.func175.trans (congrArg some (by kernel_rfl))
  f320 := Tryz.func176.trans (congrArg some (by kernel_rfl))
  f337 := Tryz.func229.trans (congrArg some (by kernel_rfl))
  f338 := Tryz.func230.trans (congrArg some (by kernel_rfl))
  t0 := Tryz.underlying0
  a0 := Tryz.isAgg0
  z0 := Tryz.sizeOf0
  v0 := Tryz.zeroValue0
  t2 := Tryz.underlying2
  a2 := Tryz.isAgg2
  z2 := Tryz.sizeOf2
  v2 := Tryz.zeroValue2
  t3 := Tryz.underlying3
  a3 := Tryz.isAgg3
  z3 := Tryz.sizeOf3
  v3 := Tryz.zeroValue3
  t4 := Tryz.underlying4
  a4 := Tryz.isAgg4
  z4 := Tryz.sizeOf4
  v4 := Tryz.zeroValue4
  t5 := Tryz.underlying5
  a5 := Tryz.isAgg5
  z5 := Tryz.sizeOf5
  v5 := Tryz.zeroValue5
  t9 := Tryz.underlying9
  a9 := Tryz.isAgg9
  z9 := Tryz.sizeOf9
  v9 := Tryz.zeroValue9
  t20 := Tryz.underlying20
  a20 := Tryz.isAgg20
  z20 := Tryz.sizeOf20
  v20 := Tryz.zeroValue20
  t37 := Tryz.underlying23
  a37 := Tryz.isAgg23
  z37 := Tryz.sizeOf23
  v37 := Tryz.zeroValue23
  t46 := Tryz.underlying61
  a46 := Tryz.isAgg61
  z46 := Tryz.sizeOf61
  v46 := Tryz.zeroValue61
  t51 := Tryz.underlying164
  a51 := Tryz.isAgg164
  z51 := Tryz.sizeOf164
  v51 := Tryz.zeroValue164
  t53 := Tryz.underlying22
  a53 := Tryz.isAgg22
  z53 := Tryz.sizeOf22
  v53 := Tryz.zeroValue22
  t171 := Tryz.underlying174
  a171 := Tryz.isAgg174
  z171 := Tryz.sizeOf174
  v171 := Tryz.zeroValue174
  t173 := Tryz.underlying177
  a173 := Tryz.isAgg177
  z173 := Tryz.sizeOf177
  v173 := Tryz.zeroValue177
  t212 := Tryz.underlying244
  a212 := Tryz.isAgg244
  z212 := Tryz.sizeOf244
  v212 := Tryz.zeroValue244
  t213 := Tryz.underlying245
  a213 := Tryz.isAgg245
  z213 := Tryz.sizeOf245
  t232 := Tryz.underlying294
  a232 := Tryz.isAgg294
  z232 := Tryz.sizeOf294
  v232 := Tryz.zeroValue294
  t233 := Tryz.underlying280
  a233 := Tryz.isAgg280
  z233 := Tryz.sizeOf280
  v233 := Tryz.zeroValue280
  g17 := by kernel_rfl
  g18 := by kernel_rfl
  g19 := by kernel_rfl
  i0 := by kernel_rfl
  i2 := by kernel_rfl
  i3 := by kernel_rfl
  i4 := by kernel_rfl
  i5 := by kernel_rfl
  i9 := by kernel_rfl
  i20 := by kernel_rfl
  i37 := by kernel_rfl
  i46 := by kernel_rfl
  i51 := by kernel_rfl
  i53 := by kernel_rfl
  i171 := by kernel_rfl
  i173 := by kernel_rfl
  i212 := by kernel_rfl
  i232 := by kernel_rfl
  i233 := by kernel_rfl
  m17 := by kernel_rfl
  m18 := by kernel_rfl
  m19 := by kernel_rfl }
open Go.RowKit Go.Sort Go.Lib in
/-- internal/strconv.FormatInt: "FormatInt returns the string representation of i in the given base": AT BASE 10: i's decimal numeral, for every int64. The world behind the call: the world before it, new blocks behind the heap, draws. (LAID: no walk: one application.) -/
theorem Tryz.internal_strconv_FormatInt_10 (n : Int) (h0 : -9223372036854775808 ≤ n) (h1 : n ≤ 9223372036854775807) (w : World) (htab : Lib.TabIs Tryz.prog w "internal/strconv.uint64pow10" .u64 Lib.pow10Tab) :
    Calls Tryz.prog 63 #[.int .i64 n, .int .i64 10] w fun e w' => e = .returned (.string ⟨(Lib.itoa n).toArray⟩) ∧ ∃ k os, w' = grow (w.drewN k) os := Any.internal_strconv_FormatInt_10 Tryz.laysM246 n h0 h1 w htab
def Tryz.lays246_ren : Go.Shelf.Ren := ⟨fun | 246 => 63 | 283 => 118 | 284 => 119 | 285 => 120 | 286 => 121 | 129 => 173 | 317 => 172 | 318 => 174 | 319 => 175 | 320 => 176 | 337 => 229 | 338 => 230 | n => n, fun | 2 => 2 | 3 => 3 | 9 => 9 | 4 => 4 | 171 => 174 | 0 => 0 | 53 => 22 | 37 => 23 | 5 => 5 | 173 => 177 | 212 => 244 | 51 => 164 | 20 => 20 | 213 => 245 | 46 => 61 | 232 => 294 | 233 => 280 | n => n, fun | 17 => 4 | 18 => 13 | 19 => 14 | n => n⟩
theorem Tryz.lays246 : Go.Proofs.Lays.n246 Tryz.prog Tryz.lays246_ren := {
  mixed := by kernel_rfl
  f129 := Tryz.func173.trans (congrArg some (by kernel_rfl))
  f246 := Tryz.func63.trans (congrArg some (by kernel_rfl))
  f283 := Tryz.func118.trans (congrArg some (by kernel_rfl))
  f284 := Tryz.func119.trans (congrArg some (by kernel_rfl))
  f285 := Tryz.func120.trans (congrArg some (by kernel_rfl))
  f286 := Tryz.func121.trans (congrArg some (by kernel_rfl))
  f317 := Tryz.func172.trans (congrArg some (by kernel_rfl))
  f318 := Tryz.func174.trans (congrArg some (by kernel_rfl))
  f319 := Tryz.func175.trans (congrArg some (by kernel_rfl))
  f320 := Tryz.func176.trans (congrArg some (by kernel_rfl))
  f337 := Tryz.func229.trans (congrArg some (by kernel_rfl))
  f338 := Tryz.func230.trans (congrArg some (by kernel_rfl))
  t0 := Tryz.underlying0
  a0 := Tryz.isAgg0
  z0 := Tryz.sizeOf0
  v0 := Tryz.zeroValue0
  t2 := Tryz.underlying2
  a2 := Tryz.isAgg2
  z2 := Tryz.sizeOf2
  v2 := Tryz.zeroValue2
  t3 := Tryz.underlying3
  a3 := Tryz.isAgg3
  z3 := Tryz.sizeOf3
  v3 := Tryz.zeroValue3
  t4 := Tryz.underlying4
  a4 := Tryz.isAgg4
  z4 := Tryz.sizeOf4
  v4 := Tryz.zeroValue4
  t5 := Tryz.underlying5
  a5 := Tryz.isAgg5
  z5 := Tryz.sizeOf5
  v5 := Tryz.zeroValue5
  t9 := Tryz.underlying9
  a9 := Tryz.isAgg9
  z9 := Tryz.sizeOf9
  v9 := Tryz.zeroValue9
  t20 := Tryz.underlying20
  a20 := Tryz.isAgg20
  z20 := Tryz.sizeOf20
  v20 := Tryz.zeroValue20
  t37 := Tryz.underlying23
  a37 := Tryz.isAgg23
  z37 := Tryz.sizeOf23
  v37 := Tryz.zeroValue23
  t46 := Tryz.underlying61
  a46 := Tryz.isAgg61
  z46 := Tryz.sizeOf61
  v46 := Tryz.zeroValue61
  t51 := Tryz.underlying164
  a51 := Tryz.isAgg164
  z51 := Tryz.sizeOf164
  v51 := Tryz.zeroValue164
  t53 := Tryz.underlying22
  a53 := Tryz.isAgg22
  z53 := Tryz.sizeOf22
  v53 := Tryz.zeroValue22
  t171 := Tryz.underlying174
  a171 := Tryz.isAgg174
  z171 := Tryz.sizeOf174
  v171 := Tryz.zeroValue174
  t173 := Tryz.underlying177
  a173 := Tryz.isAgg177
  z173 := Tryz.sizeOf177
  v173 := Tryz.zeroValue177
  t212 := Tryz.underlying244
  a212 := Tryz.isAgg244
  z212 := Tryz.sizeOf244
  v212 := Tryz.zeroValue244
  t213 := Tryz.underlying245
  a213 := Tryz.isAgg245
  z213 := Tryz.sizeOf245
  t232 := Tryz.underlying294
  a232 := Tryz.isAgg294
  z232 := Tryz.sizeOf294
  v232 := Tryz.zeroValue294
  t233 := Tryz.underlying280
  a233 := Tryz.isAgg280
  z233 := Tryz.sizeOf280
  v233 := Tryz.zeroValue280
  g17 := by kernel_rfl
  g18 := by kernel_rfl
  g19 := by kernel_rfl }
open Go.RowKit Go.Sort Go.Lib in
/-- THE ROAD WITHOUT THE TABLE: 0 <= i < 100: two constants are read, nothing is laid: no premise on the world, and the world is as it was. (LAID: no walk: one application.) -/
theorem Tryz.internal_strconv_FormatInt_10_small (i : Nat) (hi : i < 100) (w : World) :
    Calls Tryz.prog 63 #[.int .i64 i, .int .i64 10] w fun e w' => e = .returned (.string ⟨(Lib.decDigits i).toArray⟩) ∧ w' = w := Any.internal_strconv_FormatInt_10_small Tryz.lays246 i hi w
def Tryz.laysM243_ren : Go.Shelf.Ren := ⟨fun | 243 => 216 | 246 => 63 | 283 => 118 | 284 => 119 | 285 => 120 | 286 => 121 | 129 => 173 | 317 => 172 | 318 => 174 | 319 => 175 | 320 => 176 | 337 => 229 | 338 => 230 | n => n, fun | 3 => 3 | 9 => 9 | 2 => 2 | 4 => 4 | 171 => 174 | 0 => 0 | 53 => 22 | 37 => 23 | 5 => 5 | 173 => 177 | 212 => 244 | 51 => 164 | 20 => 20 | 213 => 245 | 46 => 61 | 232 => 294 | 233 => 280 | n => n, fun | 17 => 4 | 18 => 13 | 19 => 14 | n => n⟩
theorem Tryz.laysM243 : Go.Proofs.LaysM.n243 Tryz.prog Tryz.laysM243_ren := {
  mixed := by kernel_rfl
  f129 := Tryz.func173.trans (congrArg some (by kernel_rfl))
  f243 := Tryz.func216.trans (congrArg some (by kernel_rfl))
  f246 := Tryz.func63.trans (congrArg some (by kernel_rfl))
  f283 := Tryz.func118.trans (congrArg some (by kernel_rfl))
  f284 := Tryz.func119.trans (congrArg some (by kernel_rfl))
  f285 := Tryz.func120.trans (congrArg some (by kernel_rfl))
  f286 := Tryz.func121.trans (congrArg some (by kernel_rfl))
  f317 := Tryz.func172.trans (congrArg some (by kernel_rfl))
  f318 := Tryz.func174.trans (congrArg some (by kernel_rfl))
  f319 := Tryz.func175.trans (congrArg some (by kernel_rfl))
  f320 := Tryz.func176.trans (congrArg some (by kernel_rfl))
  f337 := Tryz.func229.trans (congrArg some (by kernel_rfl))
  f338 := Tryz.func230.trans (congrArg some (by kernel_rfl))
  t0 := Tryz.underlying0
  a0 := Tryz.isAgg0
  z0 := Tryz.sizeOf0
  v0 := Tryz.zeroValue0
  t2 := Tryz.underlying2
  a2 := Tryz.isAgg2
  z2 := Tryz.sizeOf2
  v2 := Tryz.zeroValue2
  t3 := Tryz.underlying3
  a3 := Tryz.isAgg3
  z3 := Tryz.sizeOf3
  v3 := Tryz.zeroValue3
  t4 := Tryz.underlying4
  a4 := Tryz.isAgg4
  z4 := Tryz.sizeOf4
  v4 := Tryz.zeroValue4
  t5 := Tryz.underlying5
  a5 := Tryz.isAgg5
  z5 := Tryz.sizeOf5
  v5 := Tryz.zeroValue5
  t9 := Tryz.underlying9
  a9 := Tryz.isAgg9
  z9 := Tryz.sizeOf9
  v9 := Tryz.zeroValue9
  t20 := Tryz.underlying20
  a20 := Tryz.isAgg20
  z20 := Tryz.sizeOf20
  v20 := Tryz.zeroValue20
  t37 := Tryz.underlying23
  a37 := Tryz.isAgg23
  z37 := Tryz.sizeOf23
  v37 := Tryz.zeroValue23
  t46 := Tryz.underlying61
  a46 := Tryz.isAgg61
  z46 := Tryz.sizeOf61
  v46 := Tryz.zeroValue61
  t51 := Tryz.underlying164
  a51 := Tryz.isAgg164
  z51 := Tryz.sizeOf164
  v51 := Tryz.zeroValue164
  t53 := Tryz.underlying22
  a53 := Tryz.isAgg22
  z53 := Tryz.sizeOf22
  v53 := Tryz.zeroValue22
  t171 := Tryz.underlying174
  a171 := Tryz.isAgg174
  z171 := Tryz.sizeOf174
  v171 := Tryz.zeroValue174
  t173 := Tryz.underlying177
  a173 := Tryz.isAgg177
  z173 := Tryz.sizeOf177
  v173 := Tryz.zeroValue177
  t212 := Tryz.underlying244
  a212 := Tryz.isAgg244
  z212 := Tryz.sizeOf244
  v212 := Tryz.zeroValue244
  t213 := Tryz.underlying245
  a213 := Tryz.isAgg245
  z213 := Tryz.sizeOf245
  t232 := Tryz.underlying294
  a232 := Tryz.isAgg294
  z232 := Tryz.sizeOf294
  v232 := Tryz.zeroValue294
  t233 := Tryz.underlying280
  a233 := Tryz.isAgg280
  z233 := Tryz.sizeOf280
  v233 := Tryz.zeroValue280
  g17 := by kernel_rfl
  g18 := by kernel_rfl
  g19 := by kernel_rfl
  i0 := by kernel_rfl
  i2 := by kernel_rfl
  i3 := by kernel_rfl
  i4 := by kernel_rfl
  i5 := by kernel_rfl
  i9 := by kernel_rfl
  i20 := by kernel_rfl
  i37 := by kernel_rfl
  i46 := by kernel_rfl
  i51 := by kernel_rfl
  i53 := by kernel_rfl
  i171 := by kernel_rfl
  i173 := by kernel_rfl
  i212 := by kernel_rfl
  i232 := by kernel_rfl
  i233 := by kernel_rfl
  m17 := by kernel_rfl
  m18 := by kernel_rfl
  m19 := by kernel_rfl }
open Go.RowKit Go.Sort Go.Lib in
/-- internal/strconv.Itoa: "Itoa is equivalent to FormatInt(int64(i), 10).": i's decimal numeral, for every int. (LAID: no walk: one application.) -/
theorem Tryz.internal_strconv_Itoa (n : Int) (h0 : -9223372036854775808 ≤ n) (h1 : n ≤ 9223372036854775807) (w : World) (htab : Lib.TabIs Tryz.prog w "internal/strconv.uint64pow10" .u64 Lib.pow10Tab) :
    Calls Tryz.prog 216 #[.int .i64 n] w fun e w' => e = .returned (.string ⟨(Lib.itoa n).toArray⟩) ∧ ∃ k os, w' = grow (w.drewN k) os := Any.internal_strconv_Itoa Tryz.laysM243 n h0 h1 w htab
def Tryz.lays243_ren : Go.Shelf.Ren := ⟨fun | 243 => 216 | 246 => 63 | 283 => 118 | 284 => 119 | 285 => 120 | 286 => 121 | 129 => 173 | 317 => 172 | 318 => 174 | 319 => 175 | 320 => 176 | 337 => 229 | 338 => 230 | n => n, fun | 3 => 3 | 9 => 9 | 2 => 2 | 4 => 4 | 171 => 174 | 0 => 0 | 53 => 22 | 37 => 23 | 5 => 5 | 173 => 177 | 212 => 244 | 51 => 164 | 20 => 20 | 213 => 245 | 46 => 61 | 232 => 294 | 233 => 280 | n => n, fun | 17 => 4 | 18 => 13 | 19 => 14 | n => n⟩
theorem Tryz.lays243 : Go.Proofs.Lays.n243 Tryz.prog Tryz.lays243_ren := {
  mixed := by kernel_rfl
  f129 := Tryz.func173.trans (congrArg some (by kernel_rfl))
  f243 := Tryz.func216.trans (congrArg some (by kernel_rfl))
  f246 := Tryz.func63.trans (congrArg some (by kernel_rfl))
  f283 := Tryz.func118.trans (congrArg some (by kernel_rfl))
  f284 := Tryz.func119.trans (congrArg some (by kernel_rfl))
  f285 := Tryz.func120.trans (congrArg some (by kernel_rfl))
  f286 := Tryz.func121.trans (congrArg some (by kernel_rfl))
  f317 := Tryz.func172.trans (congrArg some (by kernel_rfl))
  f318 := Tryz.func174.trans (congrArg some (by kernel_rfl))
  f319 := Tryz.func175.trans (congrArg some (by kernel_rfl))
  f320 := Tryz.func176.trans (congrArg some (by kernel_rfl))
  f337 := Tryz.func229.trans (congrArg some (by kernel_rfl))
  f338 := Tryz.func230.trans (congrArg some (by kernel_rfl))
  t0 := Tryz.underlying0
  a0 := Tryz.isAgg0
  z0 := Tryz.sizeOf0
  v0 := Tryz.zeroValue0
  t2 := Tryz.underlying2
  a2 := Tryz.isAgg2
  z2 := Tryz.sizeOf2
  v2 := Tryz.zeroValue2
  t3 := Tryz.underlying3
  a3 := Tryz.isAgg3
  z3 := Tryz.sizeOf3
  v3 := Tryz.zeroValue3
  t4 := Tryz.underlying4
  a4 := Tryz.isAgg4
  z4 := Tryz.sizeOf4
  v4 := Tryz.zeroValue4
  t5 := Tryz.underlying5
  a5 := Tryz.isAgg5
  z5 := Tryz.sizeOf5
  v5 := Tryz.zeroValue5
  t9 := Tryz.underlying9
  a9 := Tryz.isAgg9
  z9 := Tryz.sizeOf9
  v9 := Tryz.zeroValue9
  t20 := Tryz.underlying20
  a20 := Tryz.isAgg20
  z20 := Tryz.sizeOf20
  v20 := Tryz.zeroValue20
  t37 := Tryz.underlying23
  a37 := Tryz.isAgg23
  z37 := Tryz.sizeOf23
  v37 := Tryz.zeroValue23
  t46 := Tryz.underlying61
  a46 := Tryz.isAgg61
  z46 := Tryz.sizeOf61
  v46 := Tryz.zeroValue61
  t51 := Tryz.underlying164
  a51 := Tryz.isAgg164
  z51 := Tryz.sizeOf164
  v51 := Tryz.zeroValue164
  t53 := Tryz.underlying22
  a53 := Tryz.isAgg22
  z53 := Tryz.sizeOf22
  v53 := Tryz.zeroValue22
  t171 := Tryz.underlying174
  a171 := Tryz.isAgg174
  z171 := Tryz.sizeOf174
  v171 := Tryz.zeroValue174
  t173 := Tryz.underlying177
  a173 := Tryz.isAgg177
  z173 := Tryz.sizeOf177
  v173 := Tryz.zeroValue177
  t212 := Tryz.underlying244
  a212 := Tryz.isAgg244
  z212 := Tryz.sizeOf244
  v212 := Tryz.zeroValue244
  t213 := Tryz.underlying245
  a213 := Tryz.isAgg245
  z213 := Tryz.sizeOf245
  t232 := Tryz.underlying294
  a232 := Tryz.isAgg294
  z232 := Tryz.sizeOf294
  v232 := Tryz.zeroValue294
  t233 := Tryz.underlying280
  a233 := Tryz.isAgg280
  z233 := Tryz.sizeOf280
  v233 := Tryz.zeroValue280
  g17 := by kernel_rfl
  g18 := by kernel_rfl
  g19 := by kernel_rfl }
open Go.RowKit Go.Sort Go.Lib in
/-- THE ROAD WITHOUT THE TABLE: 0 <= i < 100. (LAID: no walk: one application.) -/
theorem Tryz.internal_strconv_Itoa_small (i : Nat) (hi : i < 100) (w : World) :
    Calls Tryz.prog 216 #[.int .i64 i] w fun e w' => e = .returned (.string ⟨(Lib.decDigits i).toArray⟩) ∧ w' = w := Any.internal_strconv_Itoa_small Tryz.lays243 i hi w
def Tryz.laysM171_ren : Go.Shelf.Ren := ⟨fun | 171 => 167 | 243 => 216 | 246 => 63 | 283 => 118 | 284 => 119 | 285 => 120 | 286 => 121 | 129 => 173 | 317 => 172 | 318 => 174 | 319 => 175 | 320 => 176 | 337 => 229 | 338 => 230 | n => n, fun | 3 => 3 | 9 => 9 | 2 => 2 | 4 => 4 | 171 => 174 | 0 => 0 | 53 => 22 | 37 => 23 | 5 => 5 | 173 => 177 | 212 => 244 | 51 => 164 | 20 => 20 | 213 => 245 | 46 => 61 | 232 => 294 | 233 => 280 | n => n, fun | 17 => 4 | 18 => 13 | 19 => 14 | n => n⟩
theorem Tryz.laysM171 : Go.Proofs.LaysM.n171 Tryz.prog Tryz.laysM171_ren := {
  mixed := by kernel_rfl
  f129 := Tryz.func173.trans (congrArg some (by kernel_rfl))
  f171 := Tryz.func167.trans (congrArg some (by kernel_rfl))
  f243 := Tryz.func216.trans (congrArg some (by kernel_rfl))
  f246 := Tryz.func63.trans (congrArg some (by kernel_rfl))
  f283 := Tryz.func118.trans (congrArg some (by kernel_rfl))
  f284 := Tryz.func119.trans (congrArg some (by kernel_rfl))
  f285 := Tryz.func120.trans (congrArg some (by kernel_rfl))
  f286 := Tryz.func121.trans (congrArg some (by kernel_rfl))
  f317 := Tryz.func172.trans (congrArg some (by kernel_rfl))
  f318 := Tryz.func174.trans (congrArg some (by kernel_rfl))
  f319 := Tryz.func175.trans (congrArg some (by kernel_rfl))
  f320 := Tryz.func176.trans (congrArg some (by kernel_rfl))
  f337 := Tryz.func229.trans (congrArg some (by kernel_rfl))
  f338 := Tryz.func230.trans (congrArg some (by kernel_rfl))
  t0 := Tryz.underlying0
  a0 := Tryz.isAgg0
  z0 := Tryz.sizeOf0
  v0 := Tryz.zeroValue0
  t2 := Tryz.underlying2
  a2 := Tryz.isAgg2
  z2 := Tryz.sizeOf2
  v2 := Tryz.zeroValue2
  t3 := Tryz.underlying3
  a3 := Tryz.isAgg3
  z3 := Tryz.sizeOf3
  v3 := Tryz.zeroValue3
  t4 := Tryz.underlying4
  a4 := Tryz.isAgg4
  z4 := Tryz.sizeOf4
  v4 := Tryz.zeroValue4
  t5 := Tryz.underlying5
  a5 := Tryz.isAgg5
  z5 := Tryz.sizeOf5
  v5 := Tryz.zeroValue5
  t9 := Tryz.underlying9
  a9 := Tryz.isAgg9
  z9 := Tryz.sizeOf9
  v9 := Tryz.zeroValue9
  t20 := Tryz.underlying20
  a20 := Tryz.isAgg20
  z20 := Tryz.sizeOf20
  v20 := Tryz.zeroValue20
  t37 := Tryz.underlying23
  a37 := Tryz.isAgg23
  z37 := Tryz.sizeOf23
  v37 := Tryz.zeroValue23
  t46 := Tryz.underlying61
  a46 := Tryz.isAgg61
  z46 := Tryz.sizeOf61
  v46 := Tryz.zeroValue61
  t51 := Tryz.underlying164
  a51 := Tryz.isAgg164
  z51 := Tryz.sizeOf164
  v51 := Tryz.zeroValue164
  t53 := Tryz.underlying22
  a53 := Tryz.isAgg22
  z53 := Tryz.sizeOf22
  v53 := Tryz.zeroValue22
  t171 := Tryz.underlying174
  a171 := Tryz.isAgg174
  z171 := Tryz.sizeOf174
  v171 := Tryz.zeroValue174
  t173 := Tryz.underlying177
  a173 := Tryz.isAgg177
  z173 := Tryz.sizeOf177
  v173 := Tryz.zeroValue177
  t212 := Tryz.underlying244
  a212 := Tryz.isAgg244
  z212 := Tryz.sizeOf244
  v212 := Tryz.zeroValue244
  t213 := Tryz.underlying245
  a213 := Tryz.isAgg245
  z213 := Tryz.sizeOf245
  t232 := Tryz.underlying294
  a232 := Tryz.isAgg294
  z232 := Tryz.sizeOf294
  v232 := Tryz.zeroValue294
  t233 := Tryz.underlying280
  a233 := Tryz.isAgg280
  z233 := Tryz.sizeOf280
  v233 := Tryz.zeroValue280
  g17 := by kernel_rfl
  g18 := by kernel_rfl
  g19 := by kernel_rfl
  i0 := by kernel_rfl
  i2 := by kernel_rfl
  i3 := by kernel_rfl
  i4 := by kernel_rfl
  i5 := by kernel_rfl
  i9 := by kernel_rfl
  i20 := by kernel_rfl
  i37 := by kernel_rfl
  i46 := by kernel_rfl
  i51 := by kernel_rfl
  i53 := by kernel_rfl
  i171 := by kernel_rfl
  i173 := by kernel_rfl
  i212 := by kernel_rfl
  i232 := by kernel_rfl
  i233 := by kernel_rfl
  m17 := by kernel_rfl
  m18 := by kernel_rfl
  m19 := by kernel_rfl }
open Go.RowKit Go.Sort Go.Lib in
/-- strconv.Itoa: "Itoa is equivalent to FormatInt(int64(i), 10).": i's DECIMAL NUMERAL ('Lib.itoa': a '-' where i is negative, then the digits), FOR EVERY int. The world behind the call: the world before it, new blocks behind the heap (the library's 'var a [24]byte'), draws. (LAID: no walk: one application.) -/
theorem Tryz.strconv_Itoa (n : Int) (h0 : -9223372036854775808 ≤ n) (h1 : n ≤ 9223372036854775807) (w : World) (htab : Lib.TabIs Tryz.prog w "internal/strconv.uint64pow10" .u64 Lib.pow10Tab) :
    Calls Tryz.prog 167 #[.int .i64 n] w fun e w' => e = .returned (.string ⟨(Lib.itoa n).toArray⟩) ∧ ∃ k os, w' = grow (w.drewN k) os := Any.strconv_Itoa Tryz.laysM171 n h0 h1 w htab
def Tryz.lays171_ren : Go.Shelf.Ren := ⟨fun | 171 => 167 | 243 => 216 | 246 => 63 | 283 => 118 | 284 => 119 | 285 => 120 | 286 => 121 | 129 => 173 | 317 => 172 | 318 => 174 | 319 => 175 | 320 => 176 | 337 => 229 | 338 => 230 | n => n, fun | 3 => 3 | 9 => 9 | 2 => 2 | 4 => 4 | 171 => 174 | 0 => 0 | 53 => 22 | 37 => 23 | 5 => 5 | 173 => 177 | 212 => 244 | 51 => 164 | 20 => 20 | 213 => 245 | 46 => 61 | 232 => 294 | 233 => 280 | n => n, fun | 17 => 4 | 18 => 13 | 19 => 14 | n => n⟩
theorem Tryz.lays171 : Go.Proofs.Lays.n171 Tryz.prog Tryz.lays171_ren := {
  mixed := by kernel_rfl
  f129 := Tryz.func173.trans (congrArg some (by kernel_rfl))
  f171 := Tryz.func167.trans (congrArg some (by kernel_rfl))
  f243 := Tryz.func216.trans (congrArg some (by kernel_rfl))
  f246 := Tryz.func63.trans (congrArg some (by kernel_rfl))
  f283 := Tryz.func118.trans (congrArg some (by kernel_rfl))
  f284 := Tryz.func119.trans (congrArg some (by kernel_rfl))
  f285 := Tryz.func120.trans (congrArg some (by kernel_rfl))
  f286 := Tryz.func121.trans (congrArg some (by kernel_rfl))
  f317 := Tryz.func172.trans (congrArg some (by kernel_rfl))
  f318 := Tryz.func174.trans (congrArg some (by kernel_rfl))
  f319 := Tryz.func175.trans (congrArg some (by kernel_rfl))
  f320 := Tryz.func176.trans (congrArg some (by kernel_rfl))
  f337 := Tryz.func229.trans (congrArg some (by kernel_rfl))
  f338 := Tryz.func230.trans (congrArg some (by kernel_rfl))
  t0 := Tryz.underlying0
  a0 := Tryz.isAgg0
  z0 := Tryz.sizeOf0
  v0 := Tryz.zeroValue0
  t2 := Tryz.underlying2
  a2 := Tryz.isAgg2
  z2 := Tryz.sizeOf2
  v2 := Tryz.zeroValue2
  t3 := Tryz.underlying3
  a3 := Tryz.isAgg3
  z3 := Tryz.sizeOf3
  v3 := Tryz.zeroValue3
  t4 := Tryz.underlying4
  a4 := Tryz.isAgg4
  z4 := Tryz.sizeOf4
  v4 := Tryz.zeroValue4
  t5 := Tryz.underlying5
  a5 := Tryz.isAgg5
  z5 := Tryz.sizeOf5
  v5 := Tryz.zeroValue5
  t9 := Tryz.underlying9
  a9 := Tryz.isAgg9
  z9 := Tryz.sizeOf9
  v9 := Tryz.zeroValue9
  t20 := Tryz.underlying20
  a20 := Tryz.isAgg20
  z20 := Tryz.sizeOf20
  v20 := Tryz.zeroValue20
  t37 := Tryz.underlying23
  a37 := Tryz.isAgg23
  z37 := Tryz.sizeOf23
  v37 := Tryz.zeroValue23
  t46 := Tryz.underlying61
  a46 := Tryz.isAgg61
  z46 := Tryz.sizeOf61
  v46 := Tryz.zeroValue61
  t51 := Tryz.underlying164
  a51 := Tryz.isAgg164
  z51 := Tryz.sizeOf164
  v51 := Tryz.zeroValue164
  t53 := Tryz.underlying22
  a53 := Tryz.isAgg22
  z53 := Tryz.sizeOf22
  v53 := Tryz.zeroValue22
  t171 := Tryz.underlying174
  a171 := Tryz.isAgg174
  z171 := Tryz.sizeOf174
  v171 := Tryz.zeroValue174
  t173 := Tryz.underlying177
  a173 := Tryz.isAgg177
  z173 := Tryz.sizeOf177
  v173 := Tryz.zeroValue177
  t212 := Tryz.underlying244
  a212 := Tryz.isAgg244
  z212 := Tryz.sizeOf244
  v212 := Tryz.zeroValue244
  t213 := Tryz.underlying245
  a213 := Tryz.isAgg245
  z213 := Tryz.sizeOf245
  t232 := Tryz.underlying294
  a232 := Tryz.isAgg294
  z232 := Tryz.sizeOf294
  v232 := Tryz.zeroValue294
  t233 := Tryz.underlying280
  a233 := Tryz.isAgg280
  z233 := Tryz.sizeOf280
  v233 := Tryz.zeroValue280
  g17 := by kernel_rfl
  g18 := by kernel_rfl
  g19 := by kernel_rfl }
open Go.RowKit Go.Sort Go.Lib in
/-- THE ROAD WITHOUT THE TABLE: 0 <= i < 100: NO PREMISE ON THE WORLD, AND THE WORLD IS AS IT WAS: a row that keeps its argument in that range need list no table ('laid = []'). (LAID: no walk: one application.) -/
theorem Tryz.strconv_Itoa_small (i : Nat) (hi : i < 100) (w : World) :
    Calls Tryz.prog 167 #[.int .i64 i] w fun e w' => e = .returned (.string ⟨(Lib.decDigits i).toArray⟩) ∧ w' = w := Any.strconv_Itoa_small Tryz.lays171 i hi w
def Tryz.laysBin30_ren : Go.Shelf.Ren := ⟨fun | 30 => 253 | n => n, fun | 25 => 316 | 22 => 23 | 29 => 164 | 0 => 0 | 5 => 5 | 45 => 61 | n => n, fun | n => n⟩
theorem Tryz.laysBin30 : Go.Proofs.LaysBin.n30 Tryz.prog Tryz.laysBin30_ren := {
  mixed := by kernel_rfl
  f30 := Tryz.func253.trans (congrArg some (by kernel_rfl))
  t0 := Tryz.underlying0
  a0 := Tryz.isAgg0
  z0 := Tryz.sizeOf0
  v0 := Tryz.zeroValue0
  i0 := by kernel_rfl
  t5 := Tryz.underlying5
  a5 := Tryz.isAgg5
  z5 := Tryz.sizeOf5
  v5 := Tryz.zeroValue5
  i5 := by kernel_rfl
  t22 := Tryz.underlying23
  a22 := Tryz.isAgg23
  z22 := Tryz.sizeOf23
  v22 := Tryz.zeroValue23
  i22 := by kernel_rfl
  t25 := Tryz.underlying316
  a25 := Tryz.isAgg316
  z25 := Tryz.sizeOf316
  v25 := Tryz.zeroValue316
  i25 := by kernel_rfl
  t29 := Tryz.underlying164
  a29 := Tryz.isAgg164
  z29 := Tryz.sizeOf164
  v29 := Tryz.zeroValue164
  i29 := by kernel_rfl
  t45 := Tryz.underlying61
  a45 := Tryz.isAgg61
  z45 := Tryz.sizeOf61
  v45 := Tryz.zeroValue61
  i45 := by kernel_rfl }
open Go.RowKit in
/-- binary.LittleEndian.Uint32: "Uint32 returns the uint32 representation of b[0:4].": THE NUMBER THAT THE FIRST 4 BYTES SPELL, the least byte first ('Lib.leNat'). Of what was there nothing has turned (the receiver, an empty struct, is laid in a new block without cells; the statement's order is drawn). (LAID: no walk: one application.) -/
theorem Tryz.binary_LE_Uint32 (g o n c : Nat) (b0 b1 b2 b3 : UInt8) (w : World) (hn : 4 ≤ n) (c0 : w.cell? ⟨g, o, none⟩ = some (.int .u8 b0.toNat)) (c1 : w.cell? ⟨g, o + 1, none⟩ = some (.int .u8 b1.toNat)) (c2 : w.cell? ⟨g, o + 2, none⟩ = some (.int .u8 b2.toNat)) (c3 : w.cell? ⟨g, o + 3, none⟩ = some (.int .u8 b3.toNat)) :
    Calls Tryz.prog 253 #[.agg #[], .slice (some ⟨g, o, none⟩) n c] w fun e w' => e = .returned (.int .u32 (Lib.leNat [b0, b1, b2, b3])) ∧ Below w.heap.size w w' := Any.binary_LE_Uint32 Tryz.laysBin30 g o n c b0 b1 b2 b3 w hn c0 c1 c2 c3
def Tryz.laysBin33_ren : Go.Shelf.Ren := ⟨fun | 33 => 242 | n => n, fun | 25 => 316 | 22 => 23 | 33 => 22 | 0 => 0 | 5 => 5 | 45 => 61 | n => n, fun | n => n⟩
theorem Tryz.laysBin33 : Go.Proofs.LaysBin.n33 Tryz.prog Tryz.laysBin33_ren := {
  mixed := by kernel_rfl
  f33 := Tryz.func242.trans (congrArg some (by kernel_rfl))
  t0 := Tryz.underlying0
  a0 := Tryz.isAgg0
  z0 := Tryz.sizeOf0
  v0 := Tryz.zeroValue0
  i0 := by kernel_rfl
  t5 := Tryz.underlying5
  a5 := Tryz.isAgg5
  z5 := Tryz.sizeOf5
  v5 := Tryz.zeroValue5
  i5 := by kernel_rfl
  t22 := Tryz.underlying23
  a22 := Tryz.isAgg23
  z22 := Tryz.sizeOf23
  v22 := Tryz.zeroValue23
  i22 := by kernel_rfl
  t25 := Tryz.underlying316
  a25 := Tryz.isAgg316
  z25 := Tryz.sizeOf316
  v25 := Tryz.zeroValue316
  i25 := by kernel_rfl
  t33 := Tryz.underlying22
  a33 := Tryz.isAgg22
  z33 := Tryz.sizeOf22
  v33 := Tryz.zeroValue22
  i33 := by kernel_rfl
  t45 := Tryz.underlying61
  a45 := Tryz.isAgg61
  z45 := Tryz.sizeOf61
  v45 := Tryz.zeroValue61
  i45 := by kernel_rfl }
open Go.RowKit in
/-- binary.LittleEndian.Uint64: "Uint64 returns the uint64 representation of b[0:8].": THE NUMBER THAT THE FIRST 8 BYTES SPELL, the least byte first ('Lib.leNat'). Of what was there nothing has turned (the receiver, an empty struct, is laid in a new block without cells; the statement's order is drawn). (LAID: no walk: one application.) -/
theorem Tryz.binary_LE_Uint64 (g o n c : Nat) (b0 b1 b2 b3 b4 b5 b6 b7 : UInt8) (w : World) (hn : 8 ≤ n) (c0 : w.cell? ⟨g, o, none⟩ = some (.int .u8 b0.toNat)) (c1 : w.cell? ⟨g, o + 1, none⟩ = some (.int .u8 b1.toNat)) (c2 : w.cell? ⟨g, o + 2, none⟩ = some (.int .u8 b2.toNat)) (c3 : w.cell? ⟨g, o + 3, none⟩ = some (.int .u8 b3.toNat)) (c4 : w.cell? ⟨g, o + 4, none⟩ = some (.int .u8 b4.toNat)) (c5 : w.cell? ⟨g, o + 5, none⟩ = some (.int .u8 b5.toNat)) (c6 : w.cell? ⟨g, o + 6, none⟩ = some (.int .u8 b6.toNat)) (c7 : w.cell? ⟨g, o + 7, none⟩ = some (.int .u8 b7.toNat)) :
    Calls Tryz.prog 242 #[.agg #[], .slice (some ⟨g, o, none⟩) n c] w fun e w' => e = .returned (.int .u64 (Lib.leNat [b0, b1, b2, b3, b4, b5, b6, b7])) ∧ Below w.heap.size w w' := Any.binary_LE_Uint64 Tryz.laysBin33 g o n c b0 b1 b2 b3 b4 b5 b6 b7 w hn c0 c1 c2 c3 c4 c5 c6 c7
open Go.RowKit in
/-- binary.LittleEndian.Uint32, ITS PREMISES 'open_ints'' CONCLUSION TO THE LETTER: a slice at WHATEVER address a, the numbers zs that its cells hold: THE NUMBER THAT THE FIRST 4 SPELL ('Lib.leZ'). (LAID: no walk: one application.) -/
theorem Tryz.binary_LE_Uint32_z (a : Addr) (n c : Nat) (zs : List Int) (w : World) (hn : 4 ≤ n) (hl : 4 ≤ zs.length) (hcell : ∀ i, i < zs.length → w.cell? (a.add i) = some (.int .u8 (zs.getD i 0))) (hw : ∀ z ∈ zs, (Lit.int .u8 z).wf = true) :
    Calls Tryz.prog 253 #[.agg #[], .slice (some a) n c] w fun e w' => e = .returned (.int .u32 (Lib.leZ (zs.take 4))) ∧ Below w.heap.size w w' := Any.binary_LE_Uint32_z Tryz.laysBin30 a n c zs w hn hl hcell hw
open Go.RowKit in
/-- binary.LittleEndian.Uint64, ITS PREMISES 'open_ints'' CONCLUSION TO THE LETTER: a slice at WHATEVER address a, the numbers zs that its cells hold: THE NUMBER THAT THE FIRST 8 SPELL ('Lib.leZ'). (LAID: no walk: one application.) -/
theorem Tryz.binary_LE_Uint64_z (a : Addr) (n c : Nat) (zs : List Int) (w : World) (hn : 8 ≤ n) (hl : 8 ≤ zs.length) (hcell : ∀ i, i < zs.length → w.cell? (a.add i) = some (.int .u8 (zs.getD i 0))) (hw : ∀ z ∈ zs, (Lit.int .u8 z).wf = true) :
    Calls Tryz.prog 242 #[.agg #[], .slice (some a) n c] w fun e w' => e = .returned (.int .u64 (Lib.leZ (zs.take 8))) ∧ Below w.heap.size w w' := Any.binary_LE_Uint64_z Tryz.laysBin33 a n c zs w hn hl hcell hw
def Tryz.lays197_ren : Go.Shelf.Ren := ⟨fun | 197 => 142 | 260 => 204 | n => n, fun | 9 => 9 | 21 => 21 | 3 => 3 | 4 => 4 | 5 => 5 | 105 => 200 | 119 => 281 | 0 => 0 | 46 => 61 | 139 => 310 | 138 => 309 | n => n, fun | 3 => 10 | 4 => 11 | n => n⟩
theorem Tryz.lays197 : Go.Proofs.Lays.n197 Tryz.prog Tryz.lays197_ren := {
  mixed := by kernel_rfl
  f197 := Tryz.func142.trans (congrArg some (by kernel_rfl))
  f260 := Tryz.func204.trans (congrArg some (by kernel_rfl))
  t0 := Tryz.underlying0
  a0 := Tryz.isAgg0
  z0 := Tryz.sizeOf0
  v0 := Tryz.zeroValue0
  t3 := Tryz.underlying3
  a3 := Tryz.isAgg3
  z3 := Tryz.sizeOf3
  v3 := Tryz.zeroValue3
  t4 := Tryz.underlying4
  a4 := Tryz.isAgg4
  z4 := Tryz.sizeOf4
  v4 := Tryz.zeroValue4
  t5 := Tryz.underlying5
  a5 := Tryz.isAgg5
  z5 := Tryz.sizeOf5
  v5 := Tryz.zeroValue5
  t9 := Tryz.underlying9
  a9 := Tryz.isAgg9
  z9 := Tryz.sizeOf9
  v9 := Tryz.zeroValue9
  t21 := Tryz.underlying21
  a21 := Tryz.isAgg21
  z21 := Tryz.sizeOf21
  v21 := Tryz.zeroValue21
  t46 := Tryz.underlying61
  a46 := Tryz.isAgg61
  z46 := Tryz.sizeOf61
  v46 := Tryz.zeroValue61
  t105 := Tryz.underlying200
  a105 := Tryz.isAgg200
  z105 := Tryz.sizeOf200
  v105 := Tryz.zeroValue200
  t119 := Tryz.underlying281
  a119 := Tryz.isAgg281
  z119 := Tryz.sizeOf281
  t138 := Tryz.underlying309
  a138 := Tryz.isAgg309
  z138 := Tryz.sizeOf309
  v138 := Tryz.zeroValue309
  t139 := Tryz.underlying310
  a139 := Tryz.isAgg310
  z139 := Tryz.sizeOf310
  v139 := Tryz.zeroValue310
  g3 := by kernel_rfl
  g4 := by kernel_rfl }
open Go.RowKit Go.Lib in
/-- unicode/utf8.DecodeRuneInString: "DecodeRuneInString is like DecodeRune but its input is a string.": ("DecodeRune unpacks the first UTF-8 encoding in p and returns the rune and its width in bytes."): WHERE s BEGINS WITH AN ASCII BYTE x: (x, 1). (LAID: no walk: one application.) -/
theorem Tryz.utf8_DecodeRuneInString_ascii (s : ByteArray) (x : UInt8) (w : World) (h0 : s.data.toList[0]? = some x) (hx : x.toNat < 128) :
    Calls Tryz.prog 142 #[.string s] w fun e w' => e = .returned (.tuple #[.int .i32 x.toNat, .int .i64 1]) ∧ w' = w := Any.utf8_DecodeRuneInString_ascii Tryz.lays197 s x w h0 hx
def Tryz.lays264_ren : Go.Shelf.Ren := ⟨fun | 264 => 281 | n => n, fun | 53 => 22 | 46 => 61 | n => n, fun | n => n⟩
theorem Tryz.lays264 : Go.Proofs.Lays.n264 Tryz.prog Tryz.lays264_ren := {
  mixed := by kernel_rfl
  f264 := Tryz.func281.trans (congrArg some (by kernel_rfl))
  t46 := Tryz.underlying61
  a46 := Tryz.isAgg61
  z46 := Tryz.sizeOf61
  v46 := Tryz.zeroValue61
  t53 := Tryz.underlying22
  a53 := Tryz.isAgg22
  z53 := Tryz.sizeOf22
  v53 := Tryz.zeroValue22 }
open Go.RowKit Go.Lib in
theorem Tryz.bits_Mul64 (x y : Nat) (hx : x < 18446744073709551616) (hy : y < 18446744073709551616) (w : World) :
    Calls Tryz.prog 281 #[.int .u64 x, .int .u64 y] w fun e w' => e = .returned (.tuple #[.int .u64 ((x * y / 18446744073709551616 : Nat) : Int), .int .u64 ((x * y % 18446744073709551616 : Nat) : Int)]) ∧ w' = w := Any.bits_Mul64 Tryz.lays264 x y hx hy w
def Tryz.lays260_ren : Go.Shelf.Ren := ⟨fun | 260 => 204 | n => n, fun | 9 => 9 | 21 => 21 | 3 => 3 | 4 => 4 | 5 => 5 | 119 => 281 | 0 => 0 | 46 => 61 | 139 => 310 | 138 => 309 | n => n, fun | 3 => 10 | 4 => 11 | n => n⟩
theorem Tryz.lays260 : Go.Proofs.Lays.n260 Tryz.prog Tryz.lays260_ren := {
  mixed := by kernel_rfl
  f260 := Tryz.func204.trans (congrArg some (by kernel_rfl))
  t0 := Tryz.underlying0
  a0 := Tryz.isAgg0
  z0 := Tryz.sizeOf0
  v0 := Tryz.zeroValue0
  t3 := Tryz.underlying3
  a3 := Tryz.isAgg3
  z3 := Tryz.sizeOf3
  v3 := Tryz.zeroValue3
  t4 := Tryz.underlying4
  a4 := Tryz.isAgg4
  z4 := Tryz.sizeOf4
  v4 := Tryz.zeroValue4
  t5 := Tryz.underlying5
  a5 := Tryz.isAgg5
  z5 := Tryz.sizeOf5
  v5 := Tryz.zeroValue5
  t9 := Tryz.underlying9
  a9 := Tryz.isAgg9
  z9 := Tryz.sizeOf9
  v9 := Tryz.zeroValue9
  t21 := Tryz.underlying21
  a21 := Tryz.isAgg21
  z21 := Tryz.sizeOf21
  v21 := Tryz.zeroValue21
  t46 := Tryz.underlying61
  a46 := Tryz.isAgg61
  z46 := Tryz.sizeOf61
  v46 := Tryz.zeroValue61
  t119 := Tryz.underlying281
  a119 := Tryz.isAgg281
  z119 := Tryz.sizeOf281
  t138 := Tryz.underlying309
  a138 := Tryz.isAgg309
  z138 := Tryz.sizeOf309
  v138 := Tryz.zeroValue309
  t139 := Tryz.underlying310
  a139 := Tryz.isAgg310
  z139 := Tryz.sizeOf310
  v139 := Tryz.zeroValue310
  g3 := by kernel_rfl
  g4 := by kernel_rfl }
open Go.RowKit Go.Lib in
theorem Tryz.utf8_decodeRuneInStringSlow (s : ByteArray) (w : World) (hT : Lib.Utf8Tabs 10 11 w) :
    Calls Tryz.prog 204 #[.string s] w fun e w' => e = .returned (.tuple #[.int .i32 (Lib.decodeGo s).1, .int .i64 (Lib.decodeGo s).2]) ∧ Below w.heap.size w w' := Any.utf8_decodeRuneInStringSlow Tryz.lays260 s w hT
open Go.RowKit Go.Lib in
/-- **unicode/utf8.DecodeRuneInString AT EVERY STRING.** (LAID: no walk: one application.) -/
theorem Tryz.utf8_DecodeRuneInString (s : ByteArray) (w : World) (hT : Lib.Utf8Tabs 10 11 w) :
    Calls Tryz.prog 142 #[.string s] w fun e w' => e = .returned (.tuple #[.int .i32 (Lib.decodeGo s).1, .int .i64 (Lib.decodeGo s).2]) ∧ Below w.heap.size w w' := Any.utf8_DecodeRuneInString Tryz.lays197 s w hT
end Go.Proofs
