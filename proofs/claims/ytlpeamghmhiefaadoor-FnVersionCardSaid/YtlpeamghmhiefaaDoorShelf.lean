/-
  DERIVED: THE SHELF's CONTRACTS AT THIS DUMP, IN PLAIN WORDS (tools/lay-plain.mjs out of 'TrydShelf.lean', which tools/lay-shelf.mjs wrote): THE SAME DECLARATIONS UNDER THE SAME NAMES: 'import', 'namespace', 'open', 'def', 'theorem' AND NOTHING ELSE: no command of the shelf's: FOR A HAND-IN. Each laying: the table of numbers ('.._ren') and one theorem, a field a fact of the dump's own or the kernel's comparison; each contract: ONE APPLICATION.
-/
import Derived.Shelf.Strings.Builder1
import Derived.Shelf.Small.Utf8
import Derived.Shelf.Small.Bits
import Derived.Shelf.Strings.BuilderF
import Derived.Shelf.Strings.BuilderK
import Derived.Shelf.Strconv.Itoa0
import Derived.Shelf.Strconv.Itoa1
import Derived.Shelf.LaysM
import Derived.Shelf.Strconv.Itoa2
import Derived.Shelf.Strconv.Itoa3
import Derived.Shelf.Strconv.Clone
import Derived.Shelf.Strconv.SyntaxError
import Derived.Shelf.LaysC
import Derived.Shelf.Strconv.ToError
import Derived.Shelf.Unicode.Decode
import Derived.Shelf.Unicode.DecodeSlow
import Derived.Shelf.Unicode.DecodeAny
import Derived.Shelf.Unicode.DecodeLast
import Derived.Ground.Names2Prog
import Derived.Shelf.Slices.SearchI
import Derived.Ground.PaProg
import Derived.Shelf.Hex.Lens
import Derived.Shelf.Hex.Decode
import Derived.Shelf.Hex.More
import Derived.Test.YtlpeamghmhiefaaDoorProg
namespace Go.Proofs
open Go.Shelf
def Tryd.lays169_ren : Go.Shelf.Ren := ⟨fun | 169 => 65 | n => n, fun | 70 => 147 | 9 => 9 | 0 => 0 | 72 => 149 | 37 => 30 | 127 => 198 | 3 => 3 | 5 => 5 | n => n, fun | n => n⟩
theorem Tryd.lays169 : Go.Proofs.Lays.n169 Tryd.prog Tryd.lays169_ren := {
  mixed := by kernel_rfl
  f169 := Tryd.func65.trans (congrArg some (by kernel_rfl))
  t0 := Tryd.underlying0
  a0 := Tryd.isAgg0
  z0 := Tryd.sizeOf0
  v0 := Tryd.zeroValue0
  t3 := Tryd.underlying3
  a3 := Tryd.isAgg3
  z3 := Tryd.sizeOf3
  v3 := Tryd.zeroValue3
  t9 := Tryd.underlying9
  a9 := Tryd.isAgg9
  z9 := Tryd.sizeOf9
  v9 := Tryd.zeroValue9
  t37 := Tryd.underlying30
  a37 := Tryd.isAgg30
  z37 := Tryd.sizeOf30
  v37 := Tryd.zeroValue30
  t70 := Tryd.underlying147
  a70 := Tryd.isAgg147
  z70 := Tryd.sizeOf147
  v70 := Tryd.zeroValue147
  t72 := Tryd.underlying149
  a72 := Tryd.isAgg149
  z72 := Tryd.sizeOf149
  v72 := Tryd.zeroValue149
  t127 := Tryd.underlying198
  a127 := Tryd.isAgg198
  z127 := Tryd.sizeOf198
  v127 := Tryd.zeroValue198 }
theorem Tryd.Builder_Extra_169 : Builder.Extra Tryd.prog Tryd.lays169_ren := {
  sizeBuilder := by kernel_rfl
  liesBuilder := by kernel_rfl
  t5 := Tryd.underlying5
  a5 := Tryd.isAgg5
  z5 := Tryd.sizeOf5
  v5 := Tryd.zeroValue5
  infoByte := by kernel_rfl
  cellsByte := by kernel_rfl
  sizeByte := by kernel_rfl
  neB5 := by decide }
open Go.RowKit in
/-- (*strings.Builder).String: "String returns the accumulated string.": OF A BUILDER THAT HOLDS AT LEAST ONE BYTE. ✋ THE MODEL FREEZES THOSE BYTES IN THE BUFFER (unsafe.String): a later write INTO them ends the model's run without an answer; a later append BEHIND them goes on. The statement's order of evaluation is drawn: one draw. (LAID: no walk: one application.) -/
theorem Tryd.Builder_String (B b : Nat) (l : List UInt8) (w : World) (h : Lib.IsBuilder 149 5 B b (Lib.byteCells l) w) (h0 : l ≠ []) :
    Calls Tryd.prog 65 #[.pointer (some ⟨b, 0, none⟩)] w fun e w' => e = .returned (.string ⟨l.toArray⟩) ∧ Below B w w' := Any.Builder_String Tryd.lays169 Tryd.Builder_Extra_169 B b l w h h0
open Go.RowKit in
/-- (*strings.Builder).String OF A BUILDER THAT HOLDS NO BYTE: the empty string. (Its buffer is nil, or a row of which it has taken nothing yet; where that row has NO capacity the model lays one new block for unsafe.SliceData's 'some address'.) One draw. (LAID: no walk: one application.) -/
theorem Tryd.Builder_String_empty (B b : Nat) (w : World) (h : Lib.IsBuilder 149 5 B b [] w) (hBw : B ≤ w.heap.size) :
    Calls Tryd.prog 65 #[.pointer (some ⟨b, 0, none⟩)] w fun e w' => e = .returned (.string ⟨#[]⟩) ∧ Below B w w' := Any.Builder_String_empty Tryd.lays169 Tryd.Builder_Extra_169 B b w h hBw
open Go.RowKit in
/-- (*strings.Builder).String: "String returns the accumulated string.": WHATEVER THE BUILDER HOLDS. (LAID: no walk: one application.) -/
theorem Tryd.Builder_String_any (B b : Nat) (l : List UInt8) (w : World) (h : Lib.IsBuilder 149 5 B b (Lib.byteCells l) w) (hBw : B ≤ w.heap.size) :
    Calls Tryd.prog 65 #[.pointer (some ⟨b, 0, none⟩)] w fun e w' => e = .returned (.string ⟨l.toArray⟩) ∧ Below B w w' := Any.Builder_String_any Tryd.lays169 Tryd.Builder_Extra_169 B b l w h hBw
def Tryd.lays120_ren : Go.Shelf.Ren := ⟨fun | 120 => 165 | n => n, fun | 5 => 5 | 4 => 4 | n => n, fun | n => n⟩
theorem Tryd.lays120 : Go.Proofs.Lays.n120 Tryd.prog Tryd.lays120_ren := {
  mixed := by kernel_rfl
  f120 := Tryd.func165.trans (congrArg some (by kernel_rfl))
  t4 := Tryd.underlying4
  a4 := Tryd.isAgg4
  z4 := Tryd.sizeOf4
  v4 := Tryd.zeroValue4
  t5 := Tryd.underlying5
  a5 := Tryd.isAgg5
  z5 := Tryd.sizeOf5
  v5 := Tryd.zeroValue5 }
/-- utf8.RuneStart: "RuneStart reports whether the byte could be the first byte of an encoded, possibly invalid rune. Second and subsequent bytes always have the top two bits set to 10.": IT RETURNS 'Lib.runeStart b'; the world is as it was. ('h0', 'h1': b is a byte: a caller has it of every byte that it was handed.) (LAID: no walk: one application.) -/
theorem Tryd.utf8_RuneStart (b : Int) (w : World) (h0 : 0 ≤ b) (h1 : b < 256) :
    Calls Tryd.prog 165 #[.int .u8 b] w fun e w' => e = .returned (.bool (Lib.runeStart b)) ∧ w' = w := Any.utf8_RuneStart Tryd.lays120 b w h0 h1
def Tryd.lays128_ren : Go.Shelf.Ren := ⟨fun | 128 => 117 | n => n, fun | 51 => 217 | 3 => 3 | 4 => 4 | 46 => 125 | 5 => 5 | 9 => 9 | n => n, fun | n => n⟩
theorem Tryd.lays128 : Go.Proofs.Lays.n128 Tryd.prog Tryd.lays128_ren := {
  mixed := by kernel_rfl
  f128 := Tryd.func117.trans (congrArg some (by kernel_rfl))
  t3 := Tryd.underlying3
  a3 := Tryd.isAgg3
  z3 := Tryd.sizeOf3
  v3 := Tryd.zeroValue3
  t4 := Tryd.underlying4
  a4 := Tryd.isAgg4
  z4 := Tryd.sizeOf4
  v4 := Tryd.zeroValue4
  t5 := Tryd.underlying5
  a5 := Tryd.isAgg5
  z5 := Tryd.sizeOf5
  v5 := Tryd.zeroValue5
  t9 := Tryd.underlying9
  a9 := Tryd.isAgg9
  z9 := Tryd.sizeOf9
  v9 := Tryd.zeroValue9
  t46 := Tryd.underlying125
  a46 := Tryd.isAgg125
  z46 := Tryd.sizeOf125
  v46 := Tryd.zeroValue125
  t51 := Tryd.underlying217
  a51 := Tryd.isAgg217
  z51 := Tryd.sizeOf217
  v51 := Tryd.zeroValue217 }
/-- bits.Len32: "Len32 returns the minimum number of bits required to represent x; the result is 0 for x == 0.": IT RETURNS 'Lib.bitLen x'; the world is as it was. ('h0', 'h1': x is a uint32.) (LAID: no walk: one application.) -/
theorem Tryd.bits_Len32 (x : Int) (w : World) (h0 : 0 ≤ x) (h1 : x ≤ 4294967295) :
    Calls Tryd.prog 117 #[.int .u32 x] w fun e w' => e = .returned (.int .i64 (Lib.bitLen x.toNat)) ∧ w' = w := Any.bits_Len32 Tryd.lays128 x w h0 h1
def Tryd.lays125_ren : Go.Shelf.Ren := ⟨fun | 125 => 79 | 128 => 117 | 129 => 118 | n => n, fun | 46 => 125 | 3 => 3 | 51 => 217 | 53 => 174 | 4 => 4 | 5 => 5 | 9 => 9 | n => n, fun | n => n⟩
theorem Tryd.lays125 : Go.Proofs.Lays.n125 Tryd.prog Tryd.lays125_ren := {
  mixed := by kernel_rfl
  f125 := Tryd.func79.trans (congrArg some (by kernel_rfl))
  f128 := Tryd.func117.trans (congrArg some (by kernel_rfl))
  f129 := Tryd.func118.trans (congrArg some (by kernel_rfl))
  t3 := Tryd.underlying3
  a3 := Tryd.isAgg3
  z3 := Tryd.sizeOf3
  v3 := Tryd.zeroValue3
  t4 := Tryd.underlying4
  a4 := Tryd.isAgg4
  z4 := Tryd.sizeOf4
  v4 := Tryd.zeroValue4
  t5 := Tryd.underlying5
  a5 := Tryd.isAgg5
  z5 := Tryd.sizeOf5
  v5 := Tryd.zeroValue5
  t9 := Tryd.underlying9
  a9 := Tryd.isAgg9
  z9 := Tryd.sizeOf9
  v9 := Tryd.zeroValue9
  t46 := Tryd.underlying125
  a46 := Tryd.isAgg125
  z46 := Tryd.sizeOf125
  v46 := Tryd.zeroValue125
  t51 := Tryd.underlying217
  a51 := Tryd.isAgg217
  z51 := Tryd.sizeOf217
  v51 := Tryd.zeroValue217
  t53 := Tryd.underlying174
  a53 := Tryd.isAgg174
  z53 := Tryd.sizeOf174
  v53 := Tryd.zeroValue174 }
/-- bits.Len: "Len returns the minimum number of bits required to represent x; the result is 0 for x == 0.": IT RETURNS 'Lib.bitLen x'; the world is as it was. (A uint has 64 bits in the model.) ITS CALLEE bits.Len64 IS MET BY ITS OWN CONTRACT OFF THE SHELF (lay that first). (LAID: no walk: one application.) -/
theorem Tryd.bits_Len (x : Int) (w : World) (h0 : 0 ≤ x) (h1 : x ≤ 18446744073709551615) :
    Calls Tryd.prog 79 #[.int .u64 x] w fun e w' => e = .returned (.int .i64 (Lib.bitLen x.toNat)) ∧ w' = w := Any.bits_Len Tryd.lays125 x w h0 h1
open Go.RowKit in
/-- (*strings.Builder).String: "String returns the accumulated string.": OF A BUILDER THAT HOLDS AT LEAST ONE BYTE. ✋ THE MODEL FREEZES THOSE BYTES IN THE BUFFER (unsafe.String): a later write INTO them ends the model's run without an answer; a later append BEHIND them goes on. The statement's order of evaluation is drawn: one draw. THE FORM '_f': IT SAYS BESIDES THAT THE BUILDER IS A BUILDER STILL ('Lib.IsBuilderF', the same bytes): SO IT CAN BE WRITTEN ON: 'b.WriteString(b.String()[:k])'. (LAID: no walk: one application.) -/
theorem Tryd.Builder_String_f (B b : Nat) (l : List UInt8) (w : World) (h : Lib.IsBuilderF 149 5 B b (Lib.byteCells l) w) (h0 : l ≠ []) :
    Calls Tryd.prog 65 #[.pointer (some ⟨b, 0, none⟩)] w fun e w' => e = .returned (.string ⟨l.toArray⟩) ∧ (Lib.IsBuilderF 149 5 B b (Lib.byteCells l) w' ∧ Below B w w') := Any.Builder_String_f Tryd.lays169 Tryd.Builder_Extra_169 B b l w h h0
open Go.RowKit in
/-- (*strings.Builder).String OF A BUILDER THAT HOLDS NO BYTE: the empty string; THE FORM '_f': a builder still. (LAID: no walk: one application.) -/
theorem Tryd.Builder_String_empty_f (B b : Nat) (w : World) (h : Lib.IsBuilderF 149 5 B b [] w) (hBw : B ≤ w.heap.size) :
    Calls Tryd.prog 65 #[.pointer (some ⟨b, 0, none⟩)] w fun e w' => e = .returned (.string ⟨#[]⟩) ∧ (Lib.IsBuilderF 149 5 B b [] w' ∧ Below B w w') := Any.Builder_String_empty_f Tryd.lays169 Tryd.Builder_Extra_169 B b w h hBw
open Go.RowKit in
/-- (*strings.Builder).String: "String returns the accumulated string.": WHATEVER THE BUILDER HOLDS; THE FORM '_f': OF A BUILDER THAT MAY HAVE BEEN READ BEFORE; AND IT IS A BUILDER STILL, holding the same bytes: it can be written on. (LAID: no walk: one application.) -/
theorem Tryd.Builder_String_any_f (B b : Nat) (l : List UInt8) (w : World) (h : Lib.IsBuilderF 149 5 B b (Lib.byteCells l) w) (hBw : B ≤ w.heap.size) :
    Calls Tryd.prog 65 #[.pointer (some ⟨b, 0, none⟩)] w fun e w' => e = .returned (.string ⟨l.toArray⟩) ∧ (Lib.IsBuilderF 149 5 B b (Lib.byteCells l) w' ∧ Below B w w') := Any.Builder_String_any_f Tryd.lays169 Tryd.Builder_Extra_169 B b l w h hBw
open Go.RowKit in
/-- (*strings.Builder).String: "String returns the accumulated string.": OF A BUILDER THAT HOLDS AT LEAST ONE BYTE. ✋ THE MODEL FREEZES THOSE BYTES IN THE BUFFER (unsafe.String): a later write INTO them ends the model's run without an answer; a later append BEHIND them goes on. The statement's order of evaluation is drawn: one draw. THE FORM '_k': OVER 'Lib.IsBuilderF' (a builder that 'String()' may have read), AND WITH THE FRAME THAT REACHES ABOVE THE BUILDER: 'Lib.OthersKept': every block that is not b and is no row of uint8's stands as it stood: the iterator of a range among them. (LAID: no walk: one application.) -/
theorem Tryd.Builder_String_k (B b : Nat) (l : List UInt8) (w : World) (h : Lib.IsBuilderF 149 5 B b (Lib.byteCells l) w) (h0 : l ≠ []) :
    Calls Tryd.prog 65 #[.pointer (some ⟨b, 0, none⟩)] w fun e w' => e = .returned (.string ⟨l.toArray⟩) ∧ (Lib.IsBuilderF 149 5 B b (Lib.byteCells l) w' ∧ Below B w w' ∧ Lib.OthersKept 5 (some b) w w') := Any.Builder_String_k Tryd.lays169 Tryd.Builder_Extra_169 B b l w h h0
open Go.RowKit in
/-- (*strings.Builder).String OF A BUILDER THAT HOLDS NO BYTE: the empty string; THE FORM '_k': OVER 'Lib.IsBuilderF' (a builder that 'String()' may have read), AND WITH THE FRAME THAT REACHES ABOVE THE BUILDER: 'Lib.OthersKept': every block that is not b and is no row of uint8's stands as it stood: the iterator of a range among them. (LAID: no walk: one application.) -/
theorem Tryd.Builder_String_empty_k (B b : Nat) (w : World) (h : Lib.IsBuilderF 149 5 B b [] w) (hBw : B ≤ w.heap.size) :
    Calls Tryd.prog 65 #[.pointer (some ⟨b, 0, none⟩)] w fun e w' => e = .returned (.string ⟨#[]⟩) ∧ (Lib.IsBuilderF 149 5 B b [] w' ∧ Below B w w' ∧ Lib.OthersKept 5 (some b) w w') := Any.Builder_String_empty_k Tryd.lays169 Tryd.Builder_Extra_169 B b w h hBw
open Go.RowKit in
/-- (*strings.Builder).String: "String returns the accumulated string.": WHATEVER THE BUILDER HOLDS; THE FORM '_k': OVER 'Lib.IsBuilderF' (a builder that 'String()' may have read), AND WITH THE FRAME THAT REACHES ABOVE THE BUILDER: 'Lib.OthersKept': every block that is not b and is no row of uint8's stands as it stood: the iterator of a range among them. (LAID: no walk: one application.) -/
theorem Tryd.Builder_String_any_k (B b : Nat) (l : List UInt8) (w : World) (h : Lib.IsBuilderF 149 5 B b (Lib.byteCells l) w) (hBw : B ≤ w.heap.size) :
    Calls Tryd.prog 65 #[.pointer (some ⟨b, 0, none⟩)] w fun e w' => e = .returned (.string ⟨l.toArray⟩) ∧ (Lib.IsBuilderF 149 5 B b (Lib.byteCells l) w' ∧ Below B w w' ∧ Lib.OthersKept 5 (some b) w w') := Any.Builder_String_any_k Tryd.lays169 Tryd.Builder_Extra_169 B b l w h hBw
def Tryd.lays129_ren : Go.Shelf.Ren := ⟨fun | 129 => 118 | n => n, fun | 53 => 174 | 3 => 3 | 4 => 4 | 46 => 125 | 5 => 5 | 9 => 9 | n => n, fun | n => n⟩
theorem Tryd.lays129 : Go.Proofs.Lays.n129 Tryd.prog Tryd.lays129_ren := {
  mixed := by kernel_rfl
  f129 := Tryd.func118.trans (congrArg some (by kernel_rfl))
  t3 := Tryd.underlying3
  a3 := Tryd.isAgg3
  z3 := Tryd.sizeOf3
  v3 := Tryd.zeroValue3
  t4 := Tryd.underlying4
  a4 := Tryd.isAgg4
  z4 := Tryd.sizeOf4
  v4 := Tryd.zeroValue4
  t5 := Tryd.underlying5
  a5 := Tryd.isAgg5
  z5 := Tryd.sizeOf5
  v5 := Tryd.zeroValue5
  t9 := Tryd.underlying9
  a9 := Tryd.isAgg9
  z9 := Tryd.sizeOf9
  v9 := Tryd.zeroValue9
  t46 := Tryd.underlying125
  a46 := Tryd.isAgg125
  z46 := Tryd.sizeOf125
  v46 := Tryd.zeroValue125
  t53 := Tryd.underlying174
  a53 := Tryd.isAgg174
  z53 := Tryd.sizeOf174
  v53 := Tryd.zeroValue174 }
/-- bits.Len64: "Len64 returns the minimum number of bits required to represent x; the result is 0 for x == 0.": IT RETURNS 'Lib.bitLen x'; the world is as it was. ('h0', 'h1': x is a uint64.) (LAID: no walk: one application.) -/
theorem Tryd.bits_Len64 (x : Int) (w : World) (h0 : 0 ≤ x) (h1 : x ≤ 18446744073709551615) :
    Calls Tryd.prog 118 #[.int .u64 x] w fun e w' => e = .returned (.int .i64 (Lib.bitLen x.toNat)) ∧ w' = w := Any.bits_Len64 Tryd.lays129 x w h0 h1
def Tryd.lays317_ren : Go.Shelf.Ren := ⟨fun | 317 => 136 | n => n, fun | 3 => 3 | 46 => 125 | n => n, fun | n => n⟩
theorem Tryd.lays317 : Go.Proofs.Lays.n317 Tryd.prog Tryd.lays317_ren := {
  mixed := by kernel_rfl
  f317 := Tryd.func136.trans (congrArg some (by kernel_rfl))
  t3 := Tryd.underlying3
  a3 := Tryd.isAgg3
  z3 := Tryd.sizeOf3
  v3 := Tryd.zeroValue3
  t46 := Tryd.underlying125
  a46 := Tryd.isAgg125
  z46 := Tryd.sizeOf125
  v46 := Tryd.zeroValue125 }
open Go.Lib in
/-- internal/strconv.log10Pow2: "log10Pow2(x) returns ⌊log₁₀ 2**x⌋ = ⌊x * log₁₀ 2⌋.": '(x * 78913) >> 18', at an x up to 64 (a length in bits). The world is as it was. (LAID: no walk: one application.) -/
theorem Tryd.internal_strconv_log10Pow2 (x : Nat) (h : x ≤ 64) (w : World) :
    Calls Tryd.prog 136 #[.int .i64 x] w fun e w' => e = .returned (.int .i64 (Lib.l10 x)) ∧ w' = w := Any.internal_strconv_log10Pow2 Tryd.lays317 x h w
def Tryd.lays318_ren : Go.Shelf.Ren := ⟨fun | 318 => 137 | n => n, fun | 3 => 3 | 4 => 4 | n => n, fun | n => n⟩
theorem Tryd.lays318 : Go.Proofs.Lays.n318 Tryd.prog Tryd.lays318_ren := {
  mixed := by kernel_rfl
  f318 := Tryd.func137.trans (congrArg some (by kernel_rfl))
  t3 := Tryd.underlying3
  a3 := Tryd.isAgg3
  z3 := Tryd.sizeOf3
  v3 := Tryd.zeroValue3
  t4 := Tryd.underlying4
  a4 := Tryd.isAgg4
  z4 := Tryd.sizeOf4
  v4 := Tryd.zeroValue4 }
open Go.Lib in
/-- internal/strconv.bool2: "bool2 converts b to an integer: 1 for true, 0 for false." The world is as it was. (LAID: no walk: one application.) -/
theorem Tryd.internal_strconv_bool2_int (b : Bool) (w : World) :
    Calls Tryd.prog 137 #[.bool b] w fun e w' => e = .returned (.int .i64 (if b then 1 else 0)) ∧ w' = w := Any.internal_strconv_bool2_int Tryd.lays318 b w
def Tryd.lays283_ren : Go.Shelf.Ren := ⟨fun | 283 => 84 | n => n, fun | 3 => 3 | 9 => 9 | 4 => 4 | n => n, fun | n => n⟩
theorem Tryd.lays283 : Go.Proofs.Lays.n283 Tryd.prog Tryd.lays283_ren := {
  mixed := by kernel_rfl
  f283 := Tryd.func84.trans (congrArg some (by kernel_rfl))
  t3 := Tryd.underlying3
  a3 := Tryd.isAgg3
  z3 := Tryd.sizeOf3
  v3 := Tryd.zeroValue3
  t4 := Tryd.underlying4
  a4 := Tryd.isAgg4
  z4 := Tryd.sizeOf4
  v4 := Tryd.zeroValue4
  t9 := Tryd.underlying9
  a9 := Tryd.isAgg9
  z9 := Tryd.sizeOf9
  v9 := Tryd.zeroValue9 }
open Go.Lib in
/-- internal/strconv.small: "small returns the string for an i with 0 <= i < nSmalls.": i's decimal numeral. The world is as it was. (LAID: no walk: one application.) -/
theorem Tryd.internal_strconv_small (i : Nat) (h : i < 100) (w : World) :
    Calls Tryd.prog 84 #[.int .i64 i] w fun e w' => e = .returned (.string ⟨(Lib.decDigits i).toArray⟩) ∧ w' = w := Any.internal_strconv_small Tryd.lays283 i h w
def Tryd.laysM284_ren : Go.Shelf.Ren := ⟨fun | 284 => 85 | 129 => 118 | 317 => 136 | 318 => 137 | n => n, fun | 53 => 174 | 3 => 3 | 212 => 230 | 0 => 0 | 4 => 4 | 46 => 125 | 5 => 5 | 9 => 9 | n => n, fun | 17 => 5 | n => n⟩
theorem Tryd.laysM284 : Go.Proofs.LaysM.n284 Tryd.prog Tryd.laysM284_ren := {
  mixed := by kernel_rfl
  f129 := Tryd.func118.trans (congrArg some (by kernel_rfl))
  f284 := Tryd.func85.trans (congrArg some (by kernel_rfl))
  f317 := Tryd.func136.trans (congrArg some (by kernel_rfl))
  f318 := Tryd.func137.trans (congrArg some (by kernel_rfl))
  t0 := Tryd.underlying0
  a0 := Tryd.isAgg0
  z0 := Tryd.sizeOf0
  v0 := Tryd.zeroValue0
  t3 := Tryd.underlying3
  a3 := Tryd.isAgg3
  z3 := Tryd.sizeOf3
  v3 := Tryd.zeroValue3
  t4 := Tryd.underlying4
  a4 := Tryd.isAgg4
  z4 := Tryd.sizeOf4
  v4 := Tryd.zeroValue4
  t5 := Tryd.underlying5
  a5 := Tryd.isAgg5
  z5 := Tryd.sizeOf5
  v5 := Tryd.zeroValue5
  t9 := Tryd.underlying9
  a9 := Tryd.isAgg9
  z9 := Tryd.sizeOf9
  v9 := Tryd.zeroValue9
  t46 := Tryd.underlying125
  a46 := Tryd.isAgg125
  z46 := Tryd.sizeOf125
  v46 := Tryd.zeroValue125
  t53 := Tryd.underlying174
  a53 := Tryd.isAgg174
  z53 := Tryd.sizeOf174
  v53 := Tryd.zeroValue174
  t212 := Tryd.underlying230
  a212 := Tryd.isAgg230
  z212 := Tryd.sizeOf230
  v212 := Tryd.zeroValue230
  g17 := by kernel_rfl
  i0 := by kernel_rfl
  i3 := by kernel_rfl
  i4 := by kernel_rfl
  i5 := by kernel_rfl
  i9 := by kernel_rfl
  i46 := by kernel_rfl
  i53 := by kernel_rfl
  i212 := by kernel_rfl
  m17 := by kernel_rfl }
open Go.Lib in
/-- internal/strconv.numDigits, at a d that is not 0: THE NUMBER OF d's DECIMAL DIGITS. The world is as it was. (LAID: no walk: one application.) -/
theorem Tryd.internal_strconv_numDigits (u : Nat) (h1 : 1 ≤ u) (h2 : u < 18446744073709551616) (w : World) (htab : Lib.TabIs Tryd.prog w "internal/strconv.uint64pow10" .u64 Lib.pow10Tab) :
    Calls Tryd.prog 85 #[.int .u64 u] w fun e w' => e = .returned (.int .i64 (Lib.nDigits u)) ∧ w' = w := Any.internal_strconv_numDigits Tryd.laysM284 u h1 h2 w htab
def Tryd.lays285_ren : Go.Shelf.Ren := ⟨fun | 285 => 86 | n => n, fun | 37 => 30 | 53 => 174 | 3 => 3 | 4 => 4 | 51 => 217 | 9 => 9 | 5 => 5 | 0 => 0 | n => n, fun | n => n⟩
theorem Tryd.lays285 : Go.Proofs.Lays.n285 Tryd.prog Tryd.lays285_ren := {
  mixed := by kernel_rfl
  f285 := Tryd.func86.trans (congrArg some (by kernel_rfl))
  t0 := Tryd.underlying0
  a0 := Tryd.isAgg0
  z0 := Tryd.sizeOf0
  v0 := Tryd.zeroValue0
  t3 := Tryd.underlying3
  a3 := Tryd.isAgg3
  z3 := Tryd.sizeOf3
  v3 := Tryd.zeroValue3
  t4 := Tryd.underlying4
  a4 := Tryd.isAgg4
  z4 := Tryd.sizeOf4
  v4 := Tryd.zeroValue4
  t5 := Tryd.underlying5
  a5 := Tryd.isAgg5
  z5 := Tryd.sizeOf5
  v5 := Tryd.zeroValue5
  t9 := Tryd.underlying9
  a9 := Tryd.isAgg9
  z9 := Tryd.sizeOf9
  v9 := Tryd.zeroValue9
  t37 := Tryd.underlying30
  a37 := Tryd.isAgg30
  z37 := Tryd.sizeOf30
  v37 := Tryd.zeroValue30
  t51 := Tryd.underlying217
  a51 := Tryd.isAgg217
  z51 := Tryd.sizeOf217
  v51 := Tryd.zeroValue217
  t53 := Tryd.underlying174
  a53 := Tryd.isAgg174
  z53 := Tryd.sizeOf174
  v53 := Tryd.zeroValue174 }
open Go.RowKit Go.Sort Go.Lib in
/-- internal/strconv.formatBase10: "formatBase10 formats the decimal representation of u into a. The caller is responsible for ensuring that a is big enough to hold u. If a is too big, leading zeros will be filled in as needed.": THE ROW HOLDS u's DIGITS ('FmtInv .. 0 ..': every place t holds 'dg u (len - 1 - t)'); all else is as it was but for the count of draws. (LAID: no walk: one application.) -/
theorem Tryd.internal_strconv_formatBase10 (blk off cap : Nat) (u : Nat) (d : Array UInt8) (w : World) (hH : Holds (fun (b : UInt8) => Value.int .u8 (b.toNat : Int)) w blk off d) (hu : u < 10 ^ d.size) (hu64 : u < 18446744073709551616) (hsz : d.size < 4611686018427387904) :
    Calls Tryd.prog 86 #[.slice (some ⟨blk, off, none⟩) d.size cap, .int .u64 u] w fun e w' =>
      e = .returned (.tuple #[]) ∧ ∃ (n v' : Nat) (dk : Array UInt8), w' = (putRow (fun (b : UInt8) => Value.int .u8 (b.toNat : Int)) w blk off dk).drewN n ∧ FmtInv d.size u 0 v' dk := Any.internal_strconv_formatBase10 Tryd.lays285 blk off cap u d w hH hu hu64 hsz
def Tryd.laysM246_ren : Go.Shelf.Ren := ⟨fun | 246 => 58 | 283 => 84 | 284 => 85 | 285 => 86 | 286 => 87 | 129 => 118 | 317 => 136 | 318 => 137 | 319 => 138 | 320 => 139 | 337 => 160 | 338 => 161 | n => n, fun | 2 => 2 | 3 => 3 | 9 => 9 | 4 => 4 | 171 => 173 | 0 => 0 | 53 => 174 | 37 => 30 | 5 => 5 | 173 => 177 | 212 => 230 | 51 => 217 | 20 => 20 | 213 => 231 | 46 => 125 | 232 => 260 | 233 => 261 | n => n, fun | 17 => 5 | 18 => 12 | 19 => 13 | n => n⟩
theorem Tryd.laysM246 : Go.Proofs.LaysM.n246 Tryd.prog Tryd.laysM246_ren := {
  mixed := by kernel_rfl
  f129 := Tryd.func118.trans (congrArg some (by kernel_rfl))
  f246 := Tryd.func58.trans (congrArg some (by kernel_rfl))
  f283 := Tryd.func84.trans (congrArg some (by kernel_rfl))
  f284 := Tryd.func85.trans (congrArg some (by kernel_rfl))
  f285 := Tryd.func86.trans (congrArg some (by kernel_rfl))
  f286 := Tryd.func87.trans (congrArg some (by kernel_rfl))
  f317 := Tryd.func136.trans (congrArg some (by kernel_rfl))
  f318 := Tryd.func137.trans (congrArg some (by kernel_rfl))
  f319 := Tryd.func138.trans (congrArg some (by kernel_rfl))
  f320 := Tryd.func139.trans (congrArg some (by kernel_rfl))
  f337 := Tryd.func160.trans (congrArg some (by kernel_rfl))
  f338 := Tryd.func161.trans (congrArg some (by kernel_rfl))
  t0 := Tryd.underlying0
  a0 := Tryd.isAgg0
  z0 := Tryd.sizeOf0
  v0 := Tryd.zeroValue0
  t2 := Tryd.underlying2
  a2 := Tryd.isAgg2
  z2 := Tryd.sizeOf2
  v2 := Tryd.zeroValue2
  t3 := Tryd.underlying3
  a3 := Tryd.isAgg3
  z3 := Tryd.sizeOf3
  v3 := Tryd.zeroValue3
  t4 := Tryd.underlying4
  a4 := Tryd.isAgg4
  z4 := Tryd.sizeOf4
  v4 := Tryd.zeroValue4
  t5 := Tryd.underlying5
  a5 := Tryd.isAgg5
  z5 := Tryd.sizeOf5
  v5 := Tryd.zeroValue5
  t9 := Tryd.underlying9
  a9 := Tryd.isAgg9
  z9 := Tryd.sizeOf9
  v9 := Tryd.zeroValue9
  t20 := Tryd.underlying20
  a20 := Tryd.isAgg20
  z20 := Tryd.sizeOf20
  v20 := Tryd.zeroValue20
  t37 := Tryd.underlying30
  a37 := Tryd.isAgg30
  z37 := Tryd.sizeOf30
  v37 := Tryd.zeroValue30
  t46 := Tryd.underlying125
  a46 := Tryd.isAgg125
  z46 := Tryd.sizeOf125
  v46 := Tryd.zeroValue125
  t51 := Tryd.underlying217
  a51 := Tryd.isAgg217
  z51 := Tryd.sizeOf217
  v51 := Tryd.zeroValue217
  t53 := Tryd.underlying174
  a53 := Tryd.isAgg174
  z53 := Tryd.sizeOf174
  v53 := Tryd.zeroValue174
  t171 := Tryd.underlying173
  a171 := Tryd.isAgg173
  z171 := Tryd.sizeOf173
  v171 := Tryd.zeroValue173
  t173 := Tryd.underlying177
  a173 := Tryd.isAgg177
  z173 := Tryd.sizeOf177
  v173 := Tryd.zeroValue177
  t212 := Tryd.underlying230
  a212 := Tryd.isAgg230
  z212 := Tryd.sizeOf230
  v212 := Tryd.zeroValue230
  t213 := Tryd.underlying231
  a213 := Tryd.isAgg231
  z213 := Tryd.sizeOf231
  t232 := Tryd.underlying260
  a232 := Tryd.isAgg260
  z232 := Tryd.sizeOf260
  v232 := Tryd.zeroValue260
  t233 := Tryd.underlying261
  a233 := Tryd.isAgg261
  z233 := Tryd.sizeOf261
  v233 := Tryd.zeroValue261
  g17 := by kernel_rfl
  g18 := by kernel_rfl
  g19 := by kernel_rfl
  i0 := by kernel_rfl
  i2 := by kernel_rfl
  i3 := by kernel_rfl
  i4 := by kernel_rfl
  i5 := by kernel_rfl
  i9 := by kernel_rfl
  i20 := by kernel_rfl
  i37 := by kernel_rfl
  i46 := by kernel_rfl
  i51 := by kernel_rfl
  i53 := by kernel_rfl
  i171 := by kernel_rfl
  i173 := by kernel_rfl
  i212 := by kernel_rfl
  i232 := by kernel_rfl
  i233 := by kernel_rfl
  m17 := by kernel_rfl
  m18 := by kernel_rfl
  m19 := by kernel_rfl }
open Go.RowKit Go.Sort Go.Lib in
/-- internal/strconv.FormatInt: "FormatInt returns the string representation of i in the given base": AT BASE 10: i's decimal numeral, for every int64. The world behind the call: the world before it, new blocks behind the heap, draws. (LAID: no walk: one application.) -/
theorem Tryd.internal_strconv_FormatInt_10 (n : Int) (h0 : -9223372036854775808 ≤ n) (h1 : n ≤ 9223372036854775807) (w : World) (htab : Lib.TabIs Tryd.prog w "internal/strconv.uint64pow10" .u64 Lib.pow10Tab) :
    Calls Tryd.prog 58 #[.int .i64 n, .int .i64 10] w fun e w' => e = .returned (.string ⟨(Lib.itoa n).toArray⟩) ∧ ∃ k os, w' = grow (w.drewN k) os := Any.internal_strconv_FormatInt_10 Tryd.laysM246 n h0 h1 w htab
def Tryd.lays246_ren : Go.Shelf.Ren := ⟨fun | 246 => 58 | 283 => 84 | 284 => 85 | 285 => 86 | 286 => 87 | 129 => 118 | 317 => 136 | 318 => 137 | 319 => 138 | 320 => 139 | 337 => 160 | 338 => 161 | n => n, fun | 2 => 2 | 3 => 3 | 9 => 9 | 4 => 4 | 171 => 173 | 0 => 0 | 53 => 174 | 37 => 30 | 5 => 5 | 173 => 177 | 212 => 230 | 51 => 217 | 20 => 20 | 213 => 231 | 46 => 125 | 232 => 260 | 233 => 261 | n => n, fun | 17 => 5 | 18 => 12 | 19 => 13 | n => n⟩
theorem Tryd.lays246 : Go.Proofs.Lays.n246 Tryd.prog Tryd.lays246_ren := {
  mixed := by kernel_rfl
  f129 := Tryd.func118.trans (congrArg some (by kernel_rfl))
  f246 := Tryd.func58.trans (congrArg some (by kernel_rfl))
  f283 := Tryd.func84.trans (congrArg some (by kernel_rfl))
  f284 := Tryd.func85.trans (congrArg some (by kernel_rfl))
  f285 := Tryd.func86.trans (congrArg some (by kernel_rfl))
  f286 := Tryd.func87.trans (congrArg some (by kernel_rfl))
  f317 := Tryd.func136.trans (congrArg some (by kernel_rfl))
  f318 := Tryd.func137.trans (congrArg some (by kernel_rfl))
  f319 := Tryd.func138.trans (congrArg some (by kernel_rfl))
  f320 := Tryd.func139.trans (congrArg some (by kernel_rfl))
  f337 := Tryd.func160.trans (congrArg some (by kernel_rfl))
  f338 := Tryd.func161.trans (congrArg some (by kernel_rfl))
  t0 := Tryd.underlying0
  a0 := Tryd.isAgg0
  z0 := Tryd.sizeOf0
  v0 := Tryd.zeroValue0
  t2 := Tryd.underlying2
  a2 := Tryd.isAgg2
  z2 := Tryd.sizeOf2
  v2 := Tryd.zeroValue2
  t3 := Tryd.underlying3
  a3 := Tryd.isAgg3
  z3 := Tryd.sizeOf3
  v3 := Tryd.zeroValue3
  t4 := Tryd.underlying4
  a4 := Tryd.isAgg4
  z4 := Tryd.sizeOf4
  v4 := Tryd.zeroValue4
  t5 := Tryd.underlying5
  a5 := Tryd.isAgg5
  z5 := Tryd.sizeOf5
  v5 := Tryd.zeroValue5
  t9 := Tryd.underlying9
  a9 := Tryd.isAgg9
  z9 := Tryd.sizeOf9
  v9 := Tryd.zeroValue9
  t20 := Tryd.underlying20
  a20 := Tryd.isAgg20
  z20 := Tryd.sizeOf20
  v20 := Tryd.zeroValue20
  t37 := Tryd.underlying30
  a37 := Tryd.isAgg30
  z37 := Tryd.sizeOf30
  v37 := Tryd.zeroValue30
  t46 := Tryd.underlying125
  a46 := Tryd.isAgg125
  z46 := Tryd.sizeOf125
  v46 := Tryd.zeroValue125
  t51 := Tryd.underlying217
  a51 := Tryd.isAgg217
  z51 := Tryd.sizeOf217
  v51 := Tryd.zeroValue217
  t53 := Tryd.underlying174
  a53 := Tryd.isAgg174
  z53 := Tryd.sizeOf174
  v53 := Tryd.zeroValue174
  t171 := Tryd.underlying173
  a171 := Tryd.isAgg173
  z171 := Tryd.sizeOf173
  v171 := Tryd.zeroValue173
  t173 := Tryd.underlying177
  a173 := Tryd.isAgg177
  z173 := Tryd.sizeOf177
  v173 := Tryd.zeroValue177
  t212 := Tryd.underlying230
  a212 := Tryd.isAgg230
  z212 := Tryd.sizeOf230
  v212 := Tryd.zeroValue230
  t213 := Tryd.underlying231
  a213 := Tryd.isAgg231
  z213 := Tryd.sizeOf231
  t232 := Tryd.underlying260
  a232 := Tryd.isAgg260
  z232 := Tryd.sizeOf260
  v232 := Tryd.zeroValue260
  t233 := Tryd.underlying261
  a233 := Tryd.isAgg261
  z233 := Tryd.sizeOf261
  v233 := Tryd.zeroValue261
  g17 := by kernel_rfl
  g18 := by kernel_rfl
  g19 := by kernel_rfl }
open Go.RowKit Go.Sort Go.Lib in
/-- THE ROAD WITHOUT THE TABLE: 0 <= i < 100: two constants are read, nothing is laid: no premise on the world, and the world is as it was. (LAID: no walk: one application.) -/
theorem Tryd.internal_strconv_FormatInt_10_small (i : Nat) (hi : i < 100) (w : World) :
    Calls Tryd.prog 58 #[.int .i64 i, .int .i64 10] w fun e w' => e = .returned (.string ⟨(Lib.decDigits i).toArray⟩) ∧ w' = w := Any.internal_strconv_FormatInt_10_small Tryd.lays246 i hi w
def Tryd.laysM243_ren : Go.Shelf.Ren := ⟨fun | 243 => 40 | 246 => 58 | 283 => 84 | 284 => 85 | 285 => 86 | 286 => 87 | 129 => 118 | 317 => 136 | 318 => 137 | 319 => 138 | 320 => 139 | 337 => 160 | 338 => 161 | n => n, fun | 3 => 3 | 9 => 9 | 2 => 2 | 4 => 4 | 171 => 173 | 0 => 0 | 53 => 174 | 37 => 30 | 5 => 5 | 173 => 177 | 212 => 230 | 51 => 217 | 20 => 20 | 213 => 231 | 46 => 125 | 232 => 260 | 233 => 261 | n => n, fun | 17 => 5 | 18 => 12 | 19 => 13 | n => n⟩
theorem Tryd.laysM243 : Go.Proofs.LaysM.n243 Tryd.prog Tryd.laysM243_ren := {
  mixed := by kernel_rfl
  f129 := Tryd.func118.trans (congrArg some (by kernel_rfl))
  f243 := Tryd.func40.trans (congrArg some (by kernel_rfl))
  f246 := Tryd.func58.trans (congrArg some (by kernel_rfl))
  f283 := Tryd.func84.trans (congrArg some (by kernel_rfl))
  f284 := Tryd.func85.trans (congrArg some (by kernel_rfl))
  f285 := Tryd.func86.trans (congrArg some (by kernel_rfl))
  f286 := Tryd.func87.trans (congrArg some (by kernel_rfl))
  f317 := Tryd.func136.trans (congrArg some (by kernel_rfl))
  f318 := Tryd.func137.trans (congrArg some (by kernel_rfl))
  f319 := Tryd.func138.trans (congrArg some (by kernel_rfl))
  f320 := Tryd.func139.trans (congrArg some (by kernel_rfl))
  f337 := Tryd.func160.trans (congrArg some (by kernel_rfl))
  f338 := Tryd.func161.trans (congrArg some (by kernel_rfl))
  t0 := Tryd.underlying0
  a0 := Tryd.isAgg0
  z0 := Tryd.sizeOf0
  v0 := Tryd.zeroValue0
  t2 := Tryd.underlying2
  a2 := Tryd.isAgg2
  z2 := Tryd.sizeOf2
  v2 := Tryd.zeroValue2
  t3 := Tryd.underlying3
  a3 := Tryd.isAgg3
  z3 := Tryd.sizeOf3
  v3 := Tryd.zeroValue3
  t4 := Tryd.underlying4
  a4 := Tryd.isAgg4
  z4 := Tryd.sizeOf4
  v4 := Tryd.zeroValue4
  t5 := Tryd.underlying5
  a5 := Tryd.isAgg5
  z5 := Tryd.sizeOf5
  v5 := Tryd.zeroValue5
  t9 := Tryd.underlying9
  a9 := Tryd.isAgg9
  z9 := Tryd.sizeOf9
  v9 := Tryd.zeroValue9
  t20 := Tryd.underlying20
  a20 := Tryd.isAgg20
  z20 := Tryd.sizeOf20
  v20 := Tryd.zeroValue20
  t37 := Tryd.underlying30
  a37 := Tryd.isAgg30
  z37 := Tryd.sizeOf30
  v37 := Tryd.zeroValue30
  t46 := Tryd.underlying125
  a46 := Tryd.isAgg125
  z46 := Tryd.sizeOf125
  v46 := Tryd.zeroValue125
  t51 := Tryd.underlying217
  a51 := Tryd.isAgg217
  z51 := Tryd.sizeOf217
  v51 := Tryd.zeroValue217
  t53 := Tryd.underlying174
  a53 := Tryd.isAgg174
  z53 := Tryd.sizeOf174
  v53 := Tryd.zeroValue174
  t171 := Tryd.underlying173
  a171 := Tryd.isAgg173
  z171 := Tryd.sizeOf173
  v171 := Tryd.zeroValue173
  t173 := Tryd.underlying177
  a173 := Tryd.isAgg177
  z173 := Tryd.sizeOf177
  v173 := Tryd.zeroValue177
  t212 := Tryd.underlying230
  a212 := Tryd.isAgg230
  z212 := Tryd.sizeOf230
  v212 := Tryd.zeroValue230
  t213 := Tryd.underlying231
  a213 := Tryd.isAgg231
  z213 := Tryd.sizeOf231
  t232 := Tryd.underlying260
  a232 := Tryd.isAgg260
  z232 := Tryd.sizeOf260
  v232 := Tryd.zeroValue260
  t233 := Tryd.underlying261
  a233 := Tryd.isAgg261
  z233 := Tryd.sizeOf261
  v233 := Tryd.zeroValue261
  g17 := by kernel_rfl
  g18 := by kernel_rfl
  g19 := by kernel_rfl
  i0 := by kernel_rfl
  i2 := by kernel_rfl
  i3 := by kernel_rfl
  i4 := by kernel_rfl
  i5 := by kernel_rfl
  i9 := by kernel_rfl
  i20 := by kernel_rfl
  i37 := by kernel_rfl
  i46 := by kernel_rfl
  i51 := by kernel_rfl
  i53 := by kernel_rfl
  i171 := by kernel_rfl
  i173 := by kernel_rfl
  i212 := by kernel_rfl
  i232 := by kernel_rfl
  i233 := by kernel_rfl
  m17 := by kernel_rfl
  m18 := by kernel_rfl
  m19 := by kernel_rfl }
open Go.RowKit Go.Sort Go.Lib in
/-- internal/strconv.Itoa: "Itoa is equivalent to FormatInt(int64(i), 10).": i's decimal numeral, for every int. (LAID: no walk: one application.) -/
theorem Tryd.internal_strconv_Itoa (n : Int) (h0 : -9223372036854775808 ≤ n) (h1 : n ≤ 9223372036854775807) (w : World) (htab : Lib.TabIs Tryd.prog w "internal/strconv.uint64pow10" .u64 Lib.pow10Tab) :
    Calls Tryd.prog 40 #[.int .i64 n] w fun e w' => e = .returned (.string ⟨(Lib.itoa n).toArray⟩) ∧ ∃ k os, w' = grow (w.drewN k) os := Any.internal_strconv_Itoa Tryd.laysM243 n h0 h1 w htab
def Tryd.lays243_ren : Go.Shelf.Ren := ⟨fun | 243 => 40 | 246 => 58 | 283 => 84 | 284 => 85 | 285 => 86 | 286 => 87 | 129 => 118 | 317 => 136 | 318 => 137 | 319 => 138 | 320 => 139 | 337 => 160 | 338 => 161 | n => n, fun | 3 => 3 | 9 => 9 | 2 => 2 | 4 => 4 | 171 => 173 | 0 => 0 | 53 => 174 | 37 => 30 | 5 => 5 | 173 => 177 | 212 => 230 | 51 => 217 | 20 => 20 | 213 => 231 | 46 => 125 | 232 => 260 | 233 => 261 | n => n, fun | 17 => 5 | 18 => 12 | 19 => 13 | n => n⟩
theorem Tryd.lays243 : Go.Proofs.Lays.n243 Tryd.prog Tryd.lays243_ren := {
  mixed := by kernel_rfl
  f129 := Tryd.func118.trans (congrArg some (by kernel_rfl))
  f243 := Tryd.func40.trans (congrArg some (by kernel_rfl))
  f246 := Tryd.func58.trans (congrArg some (by kernel_rfl))
  f283 := Tryd.func84.trans (congrArg some (by kernel_rfl))
  f284 := Tryd.func85.trans (congrArg some (by kernel_rfl))
  f285 := Tryd.func86.trans (congrArg some (by kernel_rfl))
  f286 := Tryd.func87.trans (congrArg some (by kernel_rfl))
  f317 := Tryd.func136.trans (congrArg some (by kernel_rfl))
  f318 := Tryd.func137.trans (congrArg some (by kernel_rfl))
  f319 := Tryd.func138.trans (congrArg some (by kernel_rfl))
  f320 := Tryd.func139.trans (congrArg some (by kernel_rfl))
  f337 := Tryd.func160.trans (congrArg some (by kernel_rfl))
  f338 := Tryd.func161.trans (congrArg some (by kernel_rfl))
  t0 := Tryd.underlying0
  a0 := Tryd.isAgg0
  z0 := Tryd.sizeOf0
  v0 := Tryd.zeroValue0
  t2 := Tryd.underlying2
  a2 := Tryd.isAgg2
  z2 := Tryd.sizeOf2
  v2 := Tryd.zeroValue2
  t3 := Tryd.underlying3
  a3 := Tryd.isAgg3
  z3 := Tryd.sizeOf3
  v3 := Tryd.zeroValue3
  t4 := Tryd.underlying4
  a4 := Tryd.isAgg4
  z4 := Tryd.sizeOf4
  v4 := Tryd.zeroValue4
  t5 := Tryd.underlying5
  a5 := Tryd.isAgg5
  z5 := Tryd.sizeOf5
  v5 := Tryd.zeroValue5
  t9 := Tryd.underlying9
  a9 := Tryd.isAgg9
  z9 := Tryd.sizeOf9
  v9 := Tryd.zeroValue9
  t20 := Tryd.underlying20
  a20 := Tryd.isAgg20
  z20 := Tryd.sizeOf20
  v20 := Tryd.zeroValue20
  t37 := Tryd.underlying30
  a37 := Tryd.isAgg30
  z37 := Tryd.sizeOf30
  v37 := Tryd.zeroValue30
  t46 := Tryd.underlying125
  a46 := Tryd.isAgg125
  z46 := Tryd.sizeOf125
  v46 := Tryd.zeroValue125
  t51 := Tryd.underlying217
  a51 := Tryd.isAgg217
  z51 := Tryd.sizeOf217
  v51 := Tryd.zeroValue217
  t53 := Tryd.underlying174
  a53 := Tryd.isAgg174
  z53 := Tryd.sizeOf174
  v53 := Tryd.zeroValue174
  t171 := Tryd.underlying173
  a171 := Tryd.isAgg173
  z171 := Tryd.sizeOf173
  v171 := Tryd.zeroValue173
  t173 := Tryd.underlying177
  a173 := Tryd.isAgg177
  z173 := Tryd.sizeOf177
  v173 := Tryd.zeroValue177
  t212 := Tryd.underlying230
  a212 := Tryd.isAgg230
  z212 := Tryd.sizeOf230
  v212 := Tryd.zeroValue230
  t213 := Tryd.underlying231
  a213 := Tryd.isAgg231
  z213 := Tryd.sizeOf231
  t232 := Tryd.underlying260
  a232 := Tryd.isAgg260
  z232 := Tryd.sizeOf260
  v232 := Tryd.zeroValue260
  t233 := Tryd.underlying261
  a233 := Tryd.isAgg261
  z233 := Tryd.sizeOf261
  v233 := Tryd.zeroValue261
  g17 := by kernel_rfl
  g18 := by kernel_rfl
  g19 := by kernel_rfl }
open Go.RowKit Go.Sort Go.Lib in
/-- THE ROAD WITHOUT THE TABLE: 0 <= i < 100. (LAID: no walk: one application.) -/
theorem Tryd.internal_strconv_Itoa_small (i : Nat) (hi : i < 100) (w : World) :
    Calls Tryd.prog 40 #[.int .i64 i] w fun e w' => e = .returned (.string ⟨(Lib.decDigits i).toArray⟩) ∧ w' = w := Any.internal_strconv_Itoa_small Tryd.lays243 i hi w
def Tryd.laysM171_ren : Go.Shelf.Ren := ⟨fun | 171 => 20 | 243 => 40 | 246 => 58 | 283 => 84 | 284 => 85 | 285 => 86 | 286 => 87 | 129 => 118 | 317 => 136 | 318 => 137 | 319 => 138 | 320 => 139 | 337 => 160 | 338 => 161 | n => n, fun | 3 => 3 | 9 => 9 | 2 => 2 | 4 => 4 | 171 => 173 | 0 => 0 | 53 => 174 | 37 => 30 | 5 => 5 | 173 => 177 | 212 => 230 | 51 => 217 | 20 => 20 | 213 => 231 | 46 => 125 | 232 => 260 | 233 => 261 | n => n, fun | 17 => 5 | 18 => 12 | 19 => 13 | n => n⟩
theorem Tryd.laysM171 : Go.Proofs.LaysM.n171 Tryd.prog Tryd.laysM171_ren := {
  mixed := by kernel_rfl
  f129 := Tryd.func118.trans (congrArg some (by kernel_rfl))
  f171 := Tryd.func20.trans (congrArg some (by kernel_rfl))
  f243 := Tryd.func40.trans (congrArg some (by kernel_rfl))
  f246 := Tryd.func58.trans (congrArg some (by kernel_rfl))
  f283 := Tryd.func84.trans (congrArg some (by kernel_rfl))
  f284 := Tryd.func85.trans (congrArg some (by kernel_rfl))
  f285 := Tryd.func86.trans (congrArg some (by kernel_rfl))
  f286 := Tryd.func87.trans (congrArg some (by kernel_rfl))
  f317 := Tryd.func136.trans (congrArg some (by kernel_rfl))
  f318 := Tryd.func137.trans (congrArg some (by kernel_rfl))
  f319 := Tryd.func138.trans (congrArg some (by kernel_rfl))
  f320 := Tryd.func139.trans (congrArg some (by kernel_rfl))
  f337 := Tryd.func160.trans (congrArg some (by kernel_rfl))
  f338 := Tryd.func161.trans (congrArg some (by kernel_rfl))
  t0 := Tryd.underlying0
  a0 := Tryd.isAgg0
  z0 := Tryd.sizeOf0
  v0 := Tryd.zeroValue0
  t2 := Tryd.underlying2
  a2 := Tryd.isAgg2
  z2 := Tryd.sizeOf2
  v2 := Tryd.zeroValue2
  t3 := Tryd.underlying3
  a3 := Tryd.isAgg3
  z3 := Tryd.sizeOf3
  v3 := Tryd.zeroValue3
  t4 := Tryd.underlying4
  a4 := Tryd.isAgg4
  z4 := Tryd.sizeOf4
  v4 := Tryd.zeroValue4
  t5 := Tryd.underlying5
  a5 := Tryd.isAgg5
  z5 := Tryd.sizeOf5
  v5 := Tryd.zeroValue5
  t9 := Tryd.underlying9
  a9 := Tryd.isAgg9
  z9 := Tryd.sizeOf9
  v9 := Tryd.zeroValue9
  t20 := Tryd.underlying20
  a20 := Tryd.isAgg20
  z20 := Tryd.sizeOf20
  v20 := Tryd.zeroValue20
  t37 := Tryd.underlying30
  a37 := Tryd.isAgg30
  z37 := Tryd.sizeOf30
  v37 := Tryd.zeroValue30
  t46 := Tryd.underlying125
  a46 := Tryd.isAgg125
  z46 := Tryd.sizeOf125
  v46 := Tryd.zeroValue125
  t51 := Tryd.underlying217
  a51 := Tryd.isAgg217
  z51 := Tryd.sizeOf217
  v51 := Tryd.zeroValue217
  t53 := Tryd.underlying174
  a53 := Tryd.isAgg174
  z53 := Tryd.sizeOf174
  v53 := Tryd.zeroValue174
  t171 := Tryd.underlying173
  a171 := Tryd.isAgg173
  z171 := Tryd.sizeOf173
  v171 := Tryd.zeroValue173
  t173 := Tryd.underlying177
  a173 := Tryd.isAgg177
  z173 := Tryd.sizeOf177
  v173 := Tryd.zeroValue177
  t212 := Tryd.underlying230
  a212 := Tryd.isAgg230
  z212 := Tryd.sizeOf230
  v212 := Tryd.zeroValue230
  t213 := Tryd.underlying231
  a213 := Tryd.isAgg231
  z213 := Tryd.sizeOf231
  t232 := Tryd.underlying260
  a232 := Tryd.isAgg260
  z232 := Tryd.sizeOf260
  v232 := Tryd.zeroValue260
  t233 := Tryd.underlying261
  a233 := Tryd.isAgg261
  z233 := Tryd.sizeOf261
  v233 := Tryd.zeroValue261
  g17 := by kernel_rfl
  g18 := by kernel_rfl
  g19 := by kernel_rfl
  i0 := by kernel_rfl
  i2 := by kernel_rfl
  i3 := by kernel_rfl
  i4 := by kernel_rfl
  i5 := by kernel_rfl
  i9 := by kernel_rfl
  i20 := by kernel_rfl
  i37 := by kernel_rfl
  i46 := by kernel_rfl
  i51 := by kernel_rfl
  i53 := by kernel_rfl
  i171 := by kernel_rfl
  i173 := by kernel_rfl
  i212 := by kernel_rfl
  i232 := by kernel_rfl
  i233 := by kernel_rfl
  m17 := by kernel_rfl
  m18 := by kernel_rfl
  m19 := by kernel_rfl }
open Go.RowKit Go.Sort Go.Lib in
/-- strconv.Itoa: "Itoa is equivalent to FormatInt(int64(i), 10).": i's DECIMAL NUMERAL ('Lib.itoa': a '-' where i is negative, then the digits), FOR EVERY int. The world behind the call: the world before it, new blocks behind the heap (the library's 'var a [24]byte'), draws. (LAID: no walk: one application.) -/
theorem Tryd.strconv_Itoa (n : Int) (h0 : -9223372036854775808 ≤ n) (h1 : n ≤ 9223372036854775807) (w : World) (htab : Lib.TabIs Tryd.prog w "internal/strconv.uint64pow10" .u64 Lib.pow10Tab) :
    Calls Tryd.prog 20 #[.int .i64 n] w fun e w' => e = .returned (.string ⟨(Lib.itoa n).toArray⟩) ∧ ∃ k os, w' = grow (w.drewN k) os := Any.strconv_Itoa Tryd.laysM171 n h0 h1 w htab
def Tryd.lays171_ren : Go.Shelf.Ren := ⟨fun | 171 => 20 | 243 => 40 | 246 => 58 | 283 => 84 | 284 => 85 | 285 => 86 | 286 => 87 | 129 => 118 | 317 => 136 | 318 => 137 | 319 => 138 | 320 => 139 | 337 => 160 | 338 => 161 | n => n, fun | 3 => 3 | 9 => 9 | 2 => 2 | 4 => 4 | 171 => 173 | 0 => 0 | 53 => 174 | 37 => 30 | 5 => 5 | 173 => 177 | 212 => 230 | 51 => 217 | 20 => 20 | 213 => 231 | 46 => 125 | 232 => 260 | 233 => 261 | n => n, fun | 17 => 5 | 18 => 12 | 19 => 13 | n => n⟩
theorem Tryd.lays171 : Go.Proofs.Lays.n171 Tryd.prog Tryd.lays171_ren := {
  mixed := by kernel_rfl
  f129 := Tryd.func118.trans (congrArg some (by kernel_rfl))
  f171 := Tryd.func20.trans (congrArg some (by kernel_rfl))
  f243 := Tryd.func40.trans (congrArg some (by kernel_rfl))
  f246 := Tryd.func58.trans (congrArg some (by kernel_rfl))
  f283 := Tryd.func84.trans (congrArg some (by kernel_rfl))
  f284 := Tryd.func85.trans (congrArg some (by kernel_rfl))
  f285 := Tryd.func86.trans (congrArg some (by kernel_rfl))
  f286 := Tryd.func87.trans (congrArg some (by kernel_rfl))
  f317 := Tryd.func136.trans (congrArg some (by kernel_rfl))
  f318 := Tryd.func137.trans (congrArg some (by kernel_rfl))
  f319 := Tryd.func138.trans (congrArg some (by kernel_rfl))
  f320 := Tryd.func139.trans (congrArg some (by kernel_rfl))
  f337 := Tryd.func160.trans (congrArg some (by kernel_rfl))
  f338 := Tryd.func161.trans (congrArg some (by kernel_rfl))
  t0 := Tryd.underlying0
  a0 := Tryd.isAgg0
  z0 := Tryd.sizeOf0
  v0 := Tryd.zeroValue0
  t2 := Tryd.underlying2
  a2 := Tryd.isAgg2
  z2 := Tryd.sizeOf2
  v2 := Tryd.zeroValue2
  t3 := Tryd.underlying3
  a3 := Tryd.isAgg3
  z3 := Tryd.sizeOf3
  v3 := Tryd.zeroValue3
  t4 := Tryd.underlying4
  a4 := Tryd.isAgg4
  z4 := Tryd.sizeOf4
  v4 := Tryd.zeroValue4
  t5 := Tryd.underlying5
  a5 := Tryd.isAgg5
  z5 := Tryd.sizeOf5
  v5 := Tryd.zeroValue5
  t9 := Tryd.underlying9
  a9 := Tryd.isAgg9
  z9 := Tryd.sizeOf9
  v9 := Tryd.zeroValue9
  t20 := Tryd.underlying20
  a20 := Tryd.isAgg20
  z20 := Tryd.sizeOf20
  v20 := Tryd.zeroValue20
  t37 := Tryd.underlying30
  a37 := Tryd.isAgg30
  z37 := Tryd.sizeOf30
  v37 := Tryd.zeroValue30
  t46 := Tryd.underlying125
  a46 := Tryd.isAgg125
  z46 := Tryd.sizeOf125
  v46 := Tryd.zeroValue125
  t51 := Tryd.underlying217
  a51 := Tryd.isAgg217
  z51 := Tryd.sizeOf217
  v51 := Tryd.zeroValue217
  t53 := Tryd.underlying174
  a53 := Tryd.isAgg174
  z53 := Tryd.sizeOf174
  v53 := Tryd.zeroValue174
  t171 := Tryd.underlying173
  a171 := Tryd.isAgg173
  z171 := Tryd.sizeOf173
  v171 := Tryd.zeroValue173
  t173 := Tryd.underlying177
  a173 := Tryd.isAgg177
  z173 := Tryd.sizeOf177
  v173 := Tryd.zeroValue177
  t212 := Tryd.underlying230
  a212 := Tryd.isAgg230
  z212 := Tryd.sizeOf230
  v212 := Tryd.zeroValue230
  t213 := Tryd.underlying231
  a213 := Tryd.isAgg231
  z213 := Tryd.sizeOf231
  t232 := Tryd.underlying260
  a232 := Tryd.isAgg260
  z232 := Tryd.sizeOf260
  v232 := Tryd.zeroValue260
  t233 := Tryd.underlying261
  a233 := Tryd.isAgg261
  z233 := Tryd.sizeOf261
  v233 := Tryd.zeroValue261
  g17 := by kernel_rfl
  g18 := by kernel_rfl
  g19 := by kernel_rfl }
open Go.RowKit Go.Sort Go.Lib in
/-- THE ROAD WITHOUT THE TABLE: 0 <= i < 100: NO PREMISE ON THE WORLD, AND THE WORLD IS AS IT WAS: a row that keeps its argument in that range need list no table ('laid = []'). (LAID: no walk: one application.) -/
theorem Tryd.strconv_Itoa_small (i : Nat) (hi : i < 100) (w : World) :
    Calls Tryd.prog 20 #[.int .i64 i] w fun e w' => e = .returned (.string ⟨(Lib.decDigits i).toArray⟩) ∧ w' = w := Any.strconv_Itoa_small Tryd.lays171 i hi w
def Tryd.laysM316_ren : Go.Shelf.Ren := ⟨fun | 316 => 146 | n => n, fun | 9 => 9 | 3 => 3 | 4 => 4 | 37 => 30 | 0 => 0 | 127 => 198 | 5 => 5 | n => n, fun | n => n⟩
theorem Tryd.laysM316 : Go.Proofs.LaysM.n316 Tryd.prog Tryd.laysM316_ren := {
  mixed := by kernel_rfl
  f316 := Tryd.func146.trans (congrArg some (by kernel_rfl))
  t0 := Tryd.underlying0
  a0 := Tryd.isAgg0
  z0 := Tryd.sizeOf0
  v0 := Tryd.zeroValue0
  t3 := Tryd.underlying3
  a3 := Tryd.isAgg3
  z3 := Tryd.sizeOf3
  v3 := Tryd.zeroValue3
  t4 := Tryd.underlying4
  a4 := Tryd.isAgg4
  z4 := Tryd.sizeOf4
  v4 := Tryd.zeroValue4
  t9 := Tryd.underlying9
  a9 := Tryd.isAgg9
  z9 := Tryd.sizeOf9
  v9 := Tryd.zeroValue9
  t37 := Tryd.underlying30
  a37 := Tryd.isAgg30
  z37 := Tryd.sizeOf30
  v37 := Tryd.zeroValue30
  t127 := Tryd.underlying198
  a127 := Tryd.isAgg198
  z127 := Tryd.sizeOf198
  v127 := Tryd.zeroValue198
  t5 := Tryd.underlying5
  a5 := Tryd.isAgg5
  z5 := Tryd.sizeOf5
  v5 := Tryd.zeroValue5
  i0 := by kernel_rfl
  i3 := by kernel_rfl
  i4 := by kernel_rfl
  i5 := by kernel_rfl
  i9 := by kernel_rfl
  i37 := by kernel_rfl
  i127 := by kernel_rfl }
open Go.RowKit in
/-- internal/stringslite.Clone (what strings.Clone calls): "Clone returns a fresh copy of s.": THE SAME BYTES. Of what was there nothing has turned (a new row is laid, and frozen, where s is not empty). (LAID: no walk: one application.) -/
theorem Tryd.stringslite_Clone (s : ByteArray) (w : World) (hlim : s.size ≤ 281474976710656) :
    Calls Tryd.prog 146 #[.string s] w fun e w' => e = .returned (.string s) ∧ Below w.heap.size w w' := Any.stringslite_Clone Tryd.laysM316 s w hlim
def Tryd.laysM279_ren : Go.Shelf.Ren := ⟨fun | 279 => 101 | 316 => 146 | n => n, fun | 9 => 9 | 168 => 202 | 75 => 58 | 210 => 239 | 3 => 3 | 4 => 4 | 37 => 30 | 0 => 0 | 127 => 198 | 80 => 60 | 5 => 5 | n => n, fun | 15 => 8 | n => n⟩
theorem Tryd.laysM279 : Go.Proofs.LaysM.n279 Tryd.prog Tryd.laysM279_ren := {
  mixed := by kernel_rfl
  f279 := Tryd.func101.trans (congrArg some (by kernel_rfl))
  f316 := Tryd.func146.trans (congrArg some (by kernel_rfl))
  t0 := Tryd.underlying0
  a0 := Tryd.isAgg0
  z0 := Tryd.sizeOf0
  v0 := Tryd.zeroValue0
  t3 := Tryd.underlying3
  a3 := Tryd.isAgg3
  z3 := Tryd.sizeOf3
  v3 := Tryd.zeroValue3
  t4 := Tryd.underlying4
  a4 := Tryd.isAgg4
  z4 := Tryd.sizeOf4
  v4 := Tryd.zeroValue4
  t9 := Tryd.underlying9
  a9 := Tryd.isAgg9
  z9 := Tryd.sizeOf9
  v9 := Tryd.zeroValue9
  t37 := Tryd.underlying30
  a37 := Tryd.isAgg30
  z37 := Tryd.sizeOf30
  v37 := Tryd.zeroValue30
  t75 := Tryd.underlying58
  a75 := Tryd.isAgg58
  z75 := Tryd.sizeOf58
  v75 := Tryd.zeroValue58
  t127 := Tryd.underlying198
  a127 := Tryd.isAgg198
  z127 := Tryd.sizeOf198
  v127 := Tryd.zeroValue198
  t168 := Tryd.underlying202
  a168 := Tryd.isAgg202
  z168 := Tryd.sizeOf202
  v168 := Tryd.zeroValue202
  t210 := Tryd.underlying239
  a210 := Tryd.isAgg239
  z210 := Tryd.sizeOf239
  v210 := Tryd.zeroValue239
  g15 := by kernel_rfl
  t5 := Tryd.underlying5
  a5 := Tryd.isAgg5
  z5 := Tryd.sizeOf5
  v5 := Tryd.zeroValue5
  t80 := Tryd.underlying60
  a80 := Tryd.isAgg60
  z80 := Tryd.sizeOf60
  v80 := Tryd.zeroValue60
  i0 := by kernel_rfl
  i3 := by kernel_rfl
  i4 := by kernel_rfl
  i5 := by kernel_rfl
  i9 := by kernel_rfl
  i37 := by kernel_rfl
  i75 := by kernel_rfl
  i80 := by kernel_rfl
  i127 := by kernel_rfl
  i168 := by kernel_rfl
  i210 := by kernel_rfl
  m15 := by kernel_rfl }
open Go.RowKit in
/-- strconv.syntaxError: '&NumError{fn, stringslite.Clone(str), ErrSyntax}': A POINTER TO A NEW BLOCK that holds fn, str's bytes, and what the variable ErrSyntax holds. Of what was there nothing has turned. (LAID: no walk: one application.) -/
theorem Tryd.strconv_syntaxError (fn s : ByteArray) (ev : Value) (w : World) (hlim : s.size ≤ 281474976710656) (hv : w.cell? ⟨8, 0, none⟩ = some ev) (hev : ev = .nilIface ∨ ∃ te pe, ev = .iface te pe) :
    Calls Tryd.prog 101 #[.string fn, .string s] w fun e w' => ∃ N, e = .returned (.pointer (some ⟨N, 0, none⟩)) ∧ w.heap.size ≤ N ∧ w'.heap[N]? = some (.cells #[.string fn, .string s, ev] 239 (0, 0)) ∧ Below w.heap.size w w' := Any.strconv_syntaxError Tryd.laysM279 fn s ev w hlim hv hev
def Tryd.laysC245_ren : Go.Shelf.Ren := ⟨fun | 245 => 69 | 279 => 101 | 280 => 102 | 281 => 103 | 282 => 104 | 316 => 146 | 171 => 20 | 205 => 41 | 243 => 40 | 246 => 58 | 283 => 84 | 284 => 85 | 285 => 86 | 286 => 87 | 129 => 118 | 317 => 136 | 318 => 137 | 319 => 138 | 320 => 139 | 337 => 160 | 338 => 161 | n => n, fun | 9 => 9 | 3 => 3 | 75 => 58 | 167 => 199 | 4 => 4 | 168 => 202 | 210 => 239 | 37 => 30 | 0 => 0 | 127 => 198 | 145 => 139 | 143 => 137 | 2 => 2 | 171 => 173 | 53 => 174 | 5 => 5 | 173 => 177 | 212 => 230 | 51 => 217 | 20 => 20 | 213 => 231 | 46 => 125 | 232 => 260 | 233 => 261 | 80 => 60 | n => n, fun | 15 => 8 | 16 => 9 | 17 => 5 | 18 => 12 | 19 => 13 | n => n⟩
theorem Tryd.laysC245 : Go.Proofs.LaysC.n245 Tryd.prog Tryd.laysC245_ren := {
  mixed := by kernel_rfl
  f129 := Tryd.func118.trans (congrArg some (by kernel_rfl))
  f171 := Tryd.func20.trans (congrArg some (by kernel_rfl))
  f205 := Tryd.func41.trans (congrArg some (by kernel_rfl))
  f243 := Tryd.func40.trans (congrArg some (by kernel_rfl))
  f245 := Tryd.func69.trans (congrArg some (by kernel_rfl))
  f246 := Tryd.func58.trans (congrArg some (by kernel_rfl))
  f279 := Tryd.func101.trans (congrArg some (by kernel_rfl))
  f280 := Tryd.func102.trans (congrArg some (by kernel_rfl))
  f281 := Tryd.func103.trans (congrArg some (by kernel_rfl))
  f282 := Tryd.func104.trans (congrArg some (by kernel_rfl))
  f283 := Tryd.func84.trans (congrArg some (by kernel_rfl))
  f284 := Tryd.func85.trans (congrArg some (by kernel_rfl))
  f285 := Tryd.func86.trans (congrArg some (by kernel_rfl))
  f286 := Tryd.func87.trans (congrArg some (by kernel_rfl))
  f316 := Tryd.func146.trans (congrArg some (by kernel_rfl))
  f317 := Tryd.func136.trans (congrArg some (by kernel_rfl))
  f318 := Tryd.func137.trans (congrArg some (by kernel_rfl))
  f319 := Tryd.func138.trans (congrArg some (by kernel_rfl))
  f320 := Tryd.func139.trans (congrArg some (by kernel_rfl))
  f337 := Tryd.func160.trans (congrArg some (by kernel_rfl))
  f338 := Tryd.func161.trans (congrArg some (by kernel_rfl))
  t0 := Tryd.underlying0
  a0 := Tryd.isAgg0
  z0 := Tryd.sizeOf0
  v0 := Tryd.zeroValue0
  t2 := Tryd.underlying2
  a2 := Tryd.isAgg2
  z2 := Tryd.sizeOf2
  v2 := Tryd.zeroValue2
  t3 := Tryd.underlying3
  a3 := Tryd.isAgg3
  z3 := Tryd.sizeOf3
  v3 := Tryd.zeroValue3
  t4 := Tryd.underlying4
  a4 := Tryd.isAgg4
  z4 := Tryd.sizeOf4
  v4 := Tryd.zeroValue4
  t5 := Tryd.underlying5
  a5 := Tryd.isAgg5
  z5 := Tryd.sizeOf5
  v5 := Tryd.zeroValue5
  t9 := Tryd.underlying9
  a9 := Tryd.isAgg9
  z9 := Tryd.sizeOf9
  v9 := Tryd.zeroValue9
  t20 := Tryd.underlying20
  a20 := Tryd.isAgg20
  z20 := Tryd.sizeOf20
  v20 := Tryd.zeroValue20
  t37 := Tryd.underlying30
  a37 := Tryd.isAgg30
  z37 := Tryd.sizeOf30
  v37 := Tryd.zeroValue30
  t46 := Tryd.underlying125
  a46 := Tryd.isAgg125
  z46 := Tryd.sizeOf125
  v46 := Tryd.zeroValue125
  t51 := Tryd.underlying217
  a51 := Tryd.isAgg217
  z51 := Tryd.sizeOf217
  v51 := Tryd.zeroValue217
  t53 := Tryd.underlying174
  a53 := Tryd.isAgg174
  z53 := Tryd.sizeOf174
  v53 := Tryd.zeroValue174
  t75 := Tryd.underlying58
  a75 := Tryd.isAgg58
  z75 := Tryd.sizeOf58
  v75 := Tryd.zeroValue58
  t127 := Tryd.underlying198
  a127 := Tryd.isAgg198
  z127 := Tryd.sizeOf198
  v127 := Tryd.zeroValue198
  t143 := Tryd.underlying137
  a143 := Tryd.isAgg137
  z143 := Tryd.sizeOf137
  v143 := Tryd.zeroValue137
  t145 := Tryd.underlying139
  a145 := Tryd.isAgg139
  z145 := Tryd.sizeOf139
  v145 := Tryd.zeroValue139
  t167 := Tryd.underlying199
  a167 := Tryd.isAgg199
  z167 := Tryd.sizeOf199
  v167 := Tryd.zeroValue199
  t168 := Tryd.underlying202
  a168 := Tryd.isAgg202
  z168 := Tryd.sizeOf202
  v168 := Tryd.zeroValue202
  t171 := Tryd.underlying173
  a171 := Tryd.isAgg173
  z171 := Tryd.sizeOf173
  v171 := Tryd.zeroValue173
  t173 := Tryd.underlying177
  a173 := Tryd.isAgg177
  z173 := Tryd.sizeOf177
  v173 := Tryd.zeroValue177
  t210 := Tryd.underlying239
  a210 := Tryd.isAgg239
  z210 := Tryd.sizeOf239
  v210 := Tryd.zeroValue239
  t212 := Tryd.underlying230
  a212 := Tryd.isAgg230
  z212 := Tryd.sizeOf230
  v212 := Tryd.zeroValue230
  t213 := Tryd.underlying231
  a213 := Tryd.isAgg231
  z213 := Tryd.sizeOf231
  t232 := Tryd.underlying260
  a232 := Tryd.isAgg260
  z232 := Tryd.sizeOf260
  v232 := Tryd.zeroValue260
  t233 := Tryd.underlying261
  a233 := Tryd.isAgg261
  z233 := Tryd.sizeOf261
  v233 := Tryd.zeroValue261
  g15 := by kernel_rfl
  g16 := by kernel_rfl
  g17 := by kernel_rfl
  g18 := by kernel_rfl
  g19 := by kernel_rfl
  t80 := Tryd.underlying60
  a80 := Tryd.isAgg60
  z80 := Tryd.sizeOf60
  v80 := Tryd.zeroValue60
  i0 := by kernel_rfl
  i2 := by kernel_rfl
  i3 := by kernel_rfl
  i4 := by kernel_rfl
  i5 := by kernel_rfl
  i9 := by kernel_rfl
  i20 := by kernel_rfl
  i37 := by kernel_rfl
  i46 := by kernel_rfl
  i51 := by kernel_rfl
  i53 := by kernel_rfl
  i75 := by kernel_rfl
  i80 := by kernel_rfl
  i127 := by kernel_rfl
  i143 := by kernel_rfl
  i145 := by kernel_rfl
  i167 := by kernel_rfl
  i168 := by kernel_rfl
  i171 := by kernel_rfl
  i173 := by kernel_rfl
  i210 := by kernel_rfl
  i212 := by kernel_rfl
  i232 := by kernel_rfl
  i233 := by kernel_rfl
  m15 := by kernel_rfl
  m16 := by kernel_rfl
  m17 := by kernel_rfl
  m18 := by kernel_rfl
  m19 := by kernel_rfl
  c0 := by kernel_rfl
  c2 := by kernel_rfl
  c3 := by kernel_rfl
  c4 := by kernel_rfl
  c5 := by kernel_rfl
  c9 := by kernel_rfl
  c20 := by kernel_rfl
  c37 := by kernel_rfl
  c46 := by kernel_rfl
  c51 := by kernel_rfl
  c53 := by kernel_rfl
  c75 := by kernel_rfl
  c80 := by kernel_rfl
  c127 := by kernel_rfl
  c143 := by kernel_rfl
  c145 := by kernel_rfl
  c167 := by kernel_rfl
  c168 := by kernel_rfl
  c171 := by kernel_rfl
  c173 := by kernel_rfl
  c210 := by kernel_rfl
  c212 := by kernel_rfl
  c213 := by kernel_rfl
  c232 := by kernel_rfl
  c233 := by kernel_rfl }
open Go.RowKit in
/-- strconv.toError, at the inner package's ErrSyntax: 'syntaxError(fn, s)' as an error: A *NumError IN A NEW BLOCK. (LAID: no walk: one application.) -/
theorem Tryd.strconv_toError_syntax (fn s : ByteArray) (base bits : Int) (ev : Value) (w : World) (hlim : s.size ≤ 281474976710656) (hv : w.cell? ⟨8, 0, none⟩ = some ev) (hev : ev = .nilIface ∨ ∃ te pe, ev = .iface te pe) :
    Calls Tryd.prog 69 #[.string fn, .string s, .int .i64 base, .int .i64 bits, .iface 199 (.int .i64 2)] w fun e w' => ∃ N, e = .returned (.iface 202 (.pointer (some ⟨N, 0, none⟩))) ∧ w.heap.size ≤ N ∧ w'.heap[N]? = some (.cells #[.string fn, .string s, ev] 239 (0, 0)) ∧ Below w.heap.size w w' := Any.strconv_toError_syntax Tryd.laysC245 fn s base bits ev w hlim hv hev
def Tryd.lays197_ren : Go.Shelf.Ren := ⟨fun | 197 => 106 | 260 => 148 | n => n, fun | 9 => 9 | 21 => 21 | 3 => 3 | 4 => 4 | 5 => 5 | 105 => 206 | 119 => 251 | 0 => 0 | 46 => 125 | 139 => 254 | 138 => 253 | n => n, fun | 3 => 10 | 4 => 11 | n => n⟩
theorem Tryd.lays197 : Go.Proofs.Lays.n197 Tryd.prog Tryd.lays197_ren := {
  mixed := by kernel_rfl
  f197 := Tryd.func106.trans (congrArg some (by kernel_rfl))
  f260 := Tryd.func148.trans (congrArg some (by kernel_rfl))
  t0 := Tryd.underlying0
  a0 := Tryd.isAgg0
  z0 := Tryd.sizeOf0
  v0 := Tryd.zeroValue0
  t3 := Tryd.underlying3
  a3 := Tryd.isAgg3
  z3 := Tryd.sizeOf3
  v3 := Tryd.zeroValue3
  t4 := Tryd.underlying4
  a4 := Tryd.isAgg4
  z4 := Tryd.sizeOf4
  v4 := Tryd.zeroValue4
  t5 := Tryd.underlying5
  a5 := Tryd.isAgg5
  z5 := Tryd.sizeOf5
  v5 := Tryd.zeroValue5
  t9 := Tryd.underlying9
  a9 := Tryd.isAgg9
  z9 := Tryd.sizeOf9
  v9 := Tryd.zeroValue9
  t21 := Tryd.underlying21
  a21 := Tryd.isAgg21
  z21 := Tryd.sizeOf21
  v21 := Tryd.zeroValue21
  t46 := Tryd.underlying125
  a46 := Tryd.isAgg125
  z46 := Tryd.sizeOf125
  v46 := Tryd.zeroValue125
  t105 := Tryd.underlying206
  a105 := Tryd.isAgg206
  z105 := Tryd.sizeOf206
  v105 := Tryd.zeroValue206
  t119 := Tryd.underlying251
  a119 := Tryd.isAgg251
  z119 := Tryd.sizeOf251
  t138 := Tryd.underlying253
  a138 := Tryd.isAgg253
  z138 := Tryd.sizeOf253
  v138 := Tryd.zeroValue253
  t139 := Tryd.underlying254
  a139 := Tryd.isAgg254
  z139 := Tryd.sizeOf254
  v139 := Tryd.zeroValue254
  g3 := by kernel_rfl
  g4 := by kernel_rfl }
open Go.RowKit Go.Lib in
/-- unicode/utf8.DecodeRuneInString: "DecodeRuneInString is like DecodeRune but its input is a string.": ("DecodeRune unpacks the first UTF-8 encoding in p and returns the rune and its width in bytes."): WHERE s BEGINS WITH AN ASCII BYTE x: (x, 1). (LAID: no walk: one application.) -/
theorem Tryd.utf8_DecodeRuneInString_ascii (s : ByteArray) (x : UInt8) (w : World) (h0 : s.data.toList[0]? = some x) (hx : x.toNat < 128) :
    Calls Tryd.prog 106 #[.string s] w fun e w' => e = .returned (.tuple #[.int .i32 x.toNat, .int .i64 1]) ∧ w' = w := Any.utf8_DecodeRuneInString_ascii Tryd.lays197 s x w h0 hx
def Tryd.lays260_ren : Go.Shelf.Ren := ⟨fun | 260 => 148 | n => n, fun | 9 => 9 | 21 => 21 | 3 => 3 | 4 => 4 | 5 => 5 | 119 => 251 | 0 => 0 | 46 => 125 | 139 => 254 | 138 => 253 | n => n, fun | 3 => 10 | 4 => 11 | n => n⟩
theorem Tryd.lays260 : Go.Proofs.Lays.n260 Tryd.prog Tryd.lays260_ren := {
  mixed := by kernel_rfl
  f260 := Tryd.func148.trans (congrArg some (by kernel_rfl))
  t0 := Tryd.underlying0
  a0 := Tryd.isAgg0
  z0 := Tryd.sizeOf0
  v0 := Tryd.zeroValue0
  t3 := Tryd.underlying3
  a3 := Tryd.isAgg3
  z3 := Tryd.sizeOf3
  v3 := Tryd.zeroValue3
  t4 := Tryd.underlying4
  a4 := Tryd.isAgg4
  z4 := Tryd.sizeOf4
  v4 := Tryd.zeroValue4
  t5 := Tryd.underlying5
  a5 := Tryd.isAgg5
  z5 := Tryd.sizeOf5
  v5 := Tryd.zeroValue5
  t9 := Tryd.underlying9
  a9 := Tryd.isAgg9
  z9 := Tryd.sizeOf9
  v9 := Tryd.zeroValue9
  t21 := Tryd.underlying21
  a21 := Tryd.isAgg21
  z21 := Tryd.sizeOf21
  v21 := Tryd.zeroValue21
  t46 := Tryd.underlying125
  a46 := Tryd.isAgg125
  z46 := Tryd.sizeOf125
  v46 := Tryd.zeroValue125
  t119 := Tryd.underlying251
  a119 := Tryd.isAgg251
  z119 := Tryd.sizeOf251
  t138 := Tryd.underlying253
  a138 := Tryd.isAgg253
  z138 := Tryd.sizeOf253
  v138 := Tryd.zeroValue253
  t139 := Tryd.underlying254
  a139 := Tryd.isAgg254
  z139 := Tryd.sizeOf254
  v139 := Tryd.zeroValue254
  g3 := by kernel_rfl
  g4 := by kernel_rfl }
open Go.RowKit Go.Lib in
theorem Tryd.utf8_decodeRuneInStringSlow (s : ByteArray) (w : World) (hT : Lib.Utf8Tabs 10 11 w) :
    Calls Tryd.prog 148 #[.string s] w fun e w' => e = .returned (.tuple #[.int .i32 (Lib.decodeGo s).1, .int .i64 (Lib.decodeGo s).2]) ∧ Below w.heap.size w w' := Any.utf8_decodeRuneInStringSlow Tryd.lays260 s w hT
open Go.RowKit Go.Lib in
/-- **unicode/utf8.DecodeRuneInString AT EVERY STRING.** (LAID: no walk: one application.) -/
theorem Tryd.utf8_DecodeRuneInString (s : ByteArray) (w : World) (hT : Lib.Utf8Tabs 10 11 w) :
    Calls Tryd.prog 106 #[.string s] w fun e w' => e = .returned (.tuple #[.int .i32 (Lib.decodeGo s).1, .int .i64 (Lib.decodeGo s).2]) ∧ Below w.heap.size w w' := Any.utf8_DecodeRuneInString Tryd.lays197 s w hT
def Tryd.lays271_ren : Go.Shelf.Ren := ⟨fun | 271 => 147 | 120 => 165 | 197 => 106 | 260 => 148 | n => n, fun | 9 => 9 | 21 => 21 | 3 => 3 | 4 => 4 | 5 => 5 | 105 => 206 | 119 => 251 | 0 => 0 | 46 => 125 | 139 => 254 | 138 => 253 | n => n, fun | 3 => 10 | 4 => 11 | n => n⟩
theorem Tryd.lays271 : Go.Proofs.Lays.n271 Tryd.prog Tryd.lays271_ren := {
  mixed := by kernel_rfl
  f120 := Tryd.func165.trans (congrArg some (by kernel_rfl))
  f197 := Tryd.func106.trans (congrArg some (by kernel_rfl))
  f260 := Tryd.func148.trans (congrArg some (by kernel_rfl))
  f271 := Tryd.func147.trans (congrArg some (by kernel_rfl))
  t0 := Tryd.underlying0
  a0 := Tryd.isAgg0
  z0 := Tryd.sizeOf0
  v0 := Tryd.zeroValue0
  t3 := Tryd.underlying3
  a3 := Tryd.isAgg3
  z3 := Tryd.sizeOf3
  v3 := Tryd.zeroValue3
  t4 := Tryd.underlying4
  a4 := Tryd.isAgg4
  z4 := Tryd.sizeOf4
  v4 := Tryd.zeroValue4
  t5 := Tryd.underlying5
  a5 := Tryd.isAgg5
  z5 := Tryd.sizeOf5
  v5 := Tryd.zeroValue5
  t9 := Tryd.underlying9
  a9 := Tryd.isAgg9
  z9 := Tryd.sizeOf9
  v9 := Tryd.zeroValue9
  t21 := Tryd.underlying21
  a21 := Tryd.isAgg21
  z21 := Tryd.sizeOf21
  v21 := Tryd.zeroValue21
  t46 := Tryd.underlying125
  a46 := Tryd.isAgg125
  z46 := Tryd.sizeOf125
  v46 := Tryd.zeroValue125
  t105 := Tryd.underlying206
  a105 := Tryd.isAgg206
  z105 := Tryd.sizeOf206
  v105 := Tryd.zeroValue206
  t119 := Tryd.underlying251
  a119 := Tryd.isAgg251
  z119 := Tryd.sizeOf251
  t138 := Tryd.underlying253
  a138 := Tryd.isAgg253
  z138 := Tryd.sizeOf253
  v138 := Tryd.zeroValue253
  t139 := Tryd.underlying254
  a139 := Tryd.isAgg254
  z139 := Tryd.sizeOf254
  v139 := Tryd.zeroValue254
  g3 := by kernel_rfl
  g4 := by kernel_rfl }
open Go.RowKit Go.Lib in
/-- **unicode/utf8.DecodeLastRuneInString AT EVERY STRING.** (LAID: no walk: one application.) -/
theorem Tryd.utf8_DecodeLastRuneInString (s : ByteArray) (w : World) (hs : s.size ≤ 9223372036854775807) (hT : Lib.Utf8Tabs 10 11 w) :
    Calls Tryd.prog 147 #[.string s] w fun e w' => e = .returned (.tuple #[.int .i32 (Lib.decodeLastL s.data.toList).1, .int .i64 (Lib.decodeLastL s.data.toList).2]) ∧ Below w.heap.size w w' := Any.utf8_DecodeLastRuneInString Tryd.lays271 s w hs hT
def Tryd.laysNm237_ren : Go.Shelf.Ren := ⟨fun | 37 => 154 | n => n, fun | 3 => 3 | 4 => 4 | n => n, fun | n => n⟩
theorem Tryd.laysNm237 : Go.Proofs.Lays2.n37 Tryd.prog Tryd.laysNm237_ren := {
  mixed := by kernel_rfl
  f37 := Tryd.func154.trans (congrArg some (by kernel_rfl))
  t3 := Tryd.underlying3
  a3 := Tryd.isAgg3
  z3 := Tryd.sizeOf3
  v3 := Tryd.zeroValue3
  t4 := Tryd.underlying4
  a4 := Tryd.isAgg4
  z4 := Tryd.sizeOf4
  v4 := Tryd.zeroValue4 }
open Go.RowKit Go.Lib in
/-- cmp.isNaN[int]: 'x != x': false. (LAID: no walk: one application.) -/
theorem Tryd.cmp_isNaN_int2 (x : Int) (w : World) :
    Calls Tryd.prog 154 #[.int .i64 x] w fun e w' => e = .returned (.bool false) ∧ w' = w := Any.cmp_isNaN_int2 Tryd.laysNm237 x w
def Tryd.laysNm231_ren : Go.Shelf.Ren := ⟨fun | 31 => 114 | 37 => 154 | n => n, fun | 3 => 3 | 4 => 4 | n => n, fun | n => n⟩
theorem Tryd.laysNm231 : Go.Proofs.Lays2.n31 Tryd.prog Tryd.laysNm231_ren := {
  mixed := by kernel_rfl
  f31 := Tryd.func114.trans (congrArg some (by kernel_rfl))
  f37 := Tryd.func154.trans (congrArg some (by kernel_rfl))
  t3 := Tryd.underlying3
  a3 := Tryd.isAgg3
  z3 := Tryd.sizeOf3
  v3 := Tryd.zeroValue3
  t4 := Tryd.underlying4
  a4 := Tryd.isAgg4
  z4 := Tryd.sizeOf4
  v4 := Tryd.zeroValue4 }
open Go.RowKit Go.Lib in
/-- cmp.Less[int]: "Less reports whether x is less than y.": 'x < y'; the world is as it was. (LAID: no walk: one application.) -/
theorem Tryd.cmp_Less_int2 (x y : Int) (w : World) :
    Calls Tryd.prog 114 #[.int .i64 x, .int .i64 y] w fun e w' => e = .returned (.bool (decide (x < y))) ∧ w' = w := Any.cmp_Less_int2 Tryd.laysNm231 x y w
def Tryd.laysPa42_ren : Go.Shelf.Ren := ⟨fun | 42 => 173 | n => n, fun | 3 => 3 | n => n, fun | n => n⟩
theorem Tryd.laysPa42 : Go.Proofs.Lays.p42 Tryd.prog Tryd.laysPa42_ren := {
  mixed := by kernel_rfl
  f42 := Tryd.func173.trans (congrArg some (by kernel_rfl))
  t3 := Tryd.underlying3
  a3 := Tryd.isAgg3
  z3 := Tryd.sizeOf3
  v3 := Tryd.zeroValue3 }
open Go.RowKit Go.Lib in
/-- encoding/hex.DecodedLen: "DecodedLen returns the length of a decoding of x source bytes. Specifically, it returns x / 2.": for 0 ≤ x. (LAID: no walk: one application.) -/
theorem Tryd.hex_DecodedLen (x : Int) (h0 : 0 ≤ x) (h1 : x < 9223372036854775808) (w : World) :
    Calls Tryd.prog 173 #[.int .i64 x] w fun e w' => e = .returned (.int .i64 (x / 2)) ∧ w' = w := Any.hex_DecodedLen Tryd.laysPa42 x h0 h1 w
def Tryd.laysPa44_ren : Go.Shelf.Ren := ⟨fun | 44 => 174 | n => n, fun | 30 => 30 | 3 => 3 | 35 => 58 | 4 => 4 | 0 => 0 | 5 => 5 | 9 => 9 | 47 => 267 | 46 => 125 | 45 => 60 | n => n, fun | 0 => 14 | n => n⟩
theorem Tryd.laysPa44 : Go.Proofs.Lays.p44 Tryd.prog Tryd.laysPa44_ren := {
  mixed := by kernel_rfl
  f44 := Tryd.func174.trans (congrArg some (by kernel_rfl))
  t0 := Tryd.underlying0
  a0 := Tryd.isAgg0
  z0 := Tryd.sizeOf0
  v0 := Tryd.zeroValue0
  t3 := Tryd.underlying3
  a3 := Tryd.isAgg3
  z3 := Tryd.sizeOf3
  v3 := Tryd.zeroValue3
  t4 := Tryd.underlying4
  a4 := Tryd.isAgg4
  z4 := Tryd.sizeOf4
  v4 := Tryd.zeroValue4
  t5 := Tryd.underlying5
  a5 := Tryd.isAgg5
  z5 := Tryd.sizeOf5
  v5 := Tryd.zeroValue5
  t9 := Tryd.underlying9
  a9 := Tryd.isAgg9
  z9 := Tryd.sizeOf9
  v9 := Tryd.zeroValue9
  t30 := Tryd.underlying30
  a30 := Tryd.isAgg30
  z30 := Tryd.sizeOf30
  v30 := Tryd.zeroValue30
  t35 := Tryd.underlying58
  a35 := Tryd.isAgg58
  z35 := Tryd.sizeOf58
  v35 := Tryd.zeroValue58
  t45 := Tryd.underlying60
  a45 := Tryd.isAgg60
  z45 := Tryd.sizeOf60
  v45 := Tryd.zeroValue60
  t46 := Tryd.underlying125
  a46 := Tryd.isAgg125
  z46 := Tryd.sizeOf125
  v46 := Tryd.zeroValue125
  t47 := Tryd.underlying267
  a47 := Tryd.isAgg267
  z47 := Tryd.sizeOf267
  v47 := Tryd.zeroValue267
  g0 := by kernel_rfl }
open Go.RowKit Go.Lib in
/-- encoding/hex.Decode, FOR EVERY src THAT IS NOT nil: "Decode decodes src into DecodedLen(len(src)) bytes, returning the actual number of bytes written to dst. Decode expects that src contains only hexadecimal characters and that src has even length. If the input is malformed, Decode returns the number of bytes decoded before the error.": dst: nd places from place od on of a row (block bd), with room for len(src) / 2 bytes; src: n cells of ANOTHER block, holding the numbers xs, each a byte's; 'ev': what the variable encoding/hex.ErrLength holds. IT RETURNS (how many bytes 'Hx.decode' gives, the error by how it ends: nil ¦ InvalidByteError(c) ¦ ErrLength's content); THE ROW THEN HOLDS those bytes from place od on ('Hx.rowP'); nothing else has turned. (LAID: no walk: one application.) -/
theorem Tryd.hex_Decode (bd od nd cd N : Nat) (f : Nat → Value) (bs os n cs : Nat) (xs : List Int) (w : World) (ev : Value) (hx : xs.length = n) (hr : ∀ i, i < n → 0 ≤ xs.getD i 0 ∧ xs.getD i 0 < 256) (hsrc : ∀ i, i < n → w.cell? ⟨bs, os + i, none⟩ = some (.int .u8 (xs.getD i 0))) (hrow : w.rowIs bd 5 N f) (hfit : od + nd ≤ N) (hlen : n / 2 ≤ nd) (hne : bd ≠ bs) (hbig : n ≤ 4611686018427387903) (hE : w.cell? ⟨14, 0, none⟩ = some ev) (hgb : 14 ≠ bd) :
    Calls Tryd.prog 174 #[.slice (some ⟨bd, od, none⟩) nd cd, .slice (some ⟨bs, os, none⟩) n cs] w fun e w' =>
      e = .returned (.tuple #[.int .i64 ((Hx.decode (Lib.bytesOf xs)).1.length : Int), Hx.errVal 267 ev (Hx.decode (Lib.bytesOf xs)).2]) ∧ w'.rowIs bd 5 N (Hx.rowP f od (Hx.decode (Lib.bytesOf xs)).1) ∧ w.grownBy w' (some bd) := Any.hex_Decode Tryd.laysPa44 bd od nd cd N f bs os n cs xs w ev hx hr hsrc hrow hfit hlen hne hbig hE hgb
def Tryd.laysPah43_ren : Go.Shelf.Ren := ⟨fun | 43 => 170 | 42 => 173 | 44 => 174 | n => n, fun | 9 => 9 | 30 => 30 | 35 => 58 | 3 => 3 | 38 => 121 | 4 => 4 | 0 => 0 | 5 => 5 | 47 => 267 | 46 => 125 | 45 => 60 | n => n, fun | 0 => 14 | n => n⟩
theorem Tryd.laysPah43 : Go.Proofs.Lays.ph43 Tryd.prog Tryd.laysPah43_ren := {
  mixed := by kernel_rfl
  f42 := Tryd.func173.trans (congrArg some (by kernel_rfl))
  f43 := Tryd.func170.trans (congrArg some (by kernel_rfl))
  f44 := Tryd.func174.trans (congrArg some (by kernel_rfl))
  t0 := Tryd.underlying0
  a0 := Tryd.isAgg0
  z0 := Tryd.sizeOf0
  v0 := Tryd.zeroValue0
  t3 := Tryd.underlying3
  a3 := Tryd.isAgg3
  z3 := Tryd.sizeOf3
  v3 := Tryd.zeroValue3
  t4 := Tryd.underlying4
  a4 := Tryd.isAgg4
  z4 := Tryd.sizeOf4
  v4 := Tryd.zeroValue4
  t5 := Tryd.underlying5
  a5 := Tryd.isAgg5
  z5 := Tryd.sizeOf5
  v5 := Tryd.zeroValue5
  t9 := Tryd.underlying9
  a9 := Tryd.isAgg9
  z9 := Tryd.sizeOf9
  v9 := Tryd.zeroValue9
  t30 := Tryd.underlying30
  a30 := Tryd.isAgg30
  z30 := Tryd.sizeOf30
  v30 := Tryd.zeroValue30
  t35 := Tryd.underlying58
  a35 := Tryd.isAgg58
  z35 := Tryd.sizeOf58
  v35 := Tryd.zeroValue58
  t38 := Tryd.underlying121
  a38 := Tryd.isAgg121
  z38 := Tryd.sizeOf121
  v38 := Tryd.zeroValue121
  t45 := Tryd.underlying60
  a45 := Tryd.isAgg60
  z45 := Tryd.sizeOf60
  v45 := Tryd.zeroValue60
  t46 := Tryd.underlying125
  a46 := Tryd.isAgg125
  z46 := Tryd.sizeOf125
  v46 := Tryd.zeroValue125
  t47 := Tryd.underlying267
  a47 := Tryd.isAgg267
  z47 := Tryd.sizeOf267
  v47 := Tryd.zeroValue267
  g0 := by kernel_rfl
  info5 := by kernel_rfl }
open Go.RowKit Go.Lib in
/-- encoding/hex.DecodeString, FOR EVERY s: "DecodeString returns the bytes represented by the hexadecimal string s. DecodeString expects that src contains only hexadecimal characters and that src has even length. If the input is malformed, DecodeString returns the bytes decoded before the error.": 'ev': what the variable encoding/hex.ErrLength holds. IT RETURNS (a slice at the head of A NEW BLOCK, the first that the call lays, of as many bytes as 'Hx.decode s' gives, capacity len(s) / 2; the error by how the decoding ends: nil ¦ InvalidByteError(c) ¦ ErrLength's content); THAT BLOCK IS A ROW WHICH HOLDS THOSE BYTES ('Hx.rowP'); what was there before the call is as it was ('Below'). IT ASKS len(s) ≤ 2^48. (LAID: no walk: one application.) -/
theorem Tryd.hex_DecodeString (s : ByteArray) (w : World) (ev : Value) (hE : w.cell? ⟨14, 0, none⟩ = some ev) (hbig : s.size ≤ 281474976710656) :
    Calls Tryd.prog 170 #[.string s] w fun e w' =>
      e = .returned (.tuple #[.slice (some ⟨w.heap.size, 0, none⟩) (Hx.decode s.data.toList).1.length (s.size / 2), Hx.errVal 267 ev (Hx.decode s.data.toList).2]) ∧
      w'.rowIs w.heap.size 5 (s.size / 2) (Hx.rowP (fun _ => .int .u8 0) 0 (Hx.decode s.data.toList).1) ∧ Below w.heap.size w w' := Any.hex_DecodeString Tryd.laysPah43 s w ev hE hbig
open Go.RowKit Go.Lib in
/-- encoding/hex.Decode AT A src THAT IS nil: nothing is written; it returns (0, nil). (dst: whatever value.) (LAID: no walk: one application.) -/
theorem Tryd.hex_Decode_nil (dst : Value) (w : World) :
    Calls Tryd.prog 174 #[dst, .slice none 0 0] w fun e w' => e = .returned (.tuple #[.int .i64 0, .nilIface]) ∧ w' = w := Any.hex_Decode_nil Tryd.laysPa44 dst w
end Go.Proofs
