/-
  DERIVED: THE SHELF's CONTRACTS AT THIS DUMP, IN PLAIN WORDS (tools/lay-plain.mjs out of 'TrydShelf.lean', which tools/lay-shelf.mjs wrote): THE SAME DECLARATIONS UNDER THE SAME NAMES: 'import', 'namespace', 'open', 'def', 'theorem' AND NOTHING ELSE: no command of the shelf's: FOR A HAND-IN. Each laying: the table of numbers ('.._ren') and one theorem, a field a fact of the dump's own or the kernel's comparison; each contract: ONE APPLICATION.
-/
import Derived.Shelf.Strings.Builder1
import Derived.Shelf.Small.Utf8
import Derived.Shelf.Strings.BuilderF
import Derived.Shelf.Strings.BuilderK
import Derived.Shelf.Strings.BuilderRune
import Derived.Shelf.Strconv.Atoi
import Derived.Shelf.Strconv.Itoa0
import Derived.Shelf.Strconv.Itoa1
import Derived.Shelf.LaysM
import Derived.Shelf.Strconv.Itoa2
import Derived.Shelf.Strconv.Itoa3
import Derived.Shelf.GgClosure.StringsIndexFunc
import Derived.Shelf.GgClosure.StringsTrimFunc
import Derived.Shelf.Unicode.DecodeSlow
import Derived.Shelf.Unicode.DecodeAny
import Derived.Shelf.Unicode.DecodeLast
import Derived.Test.YtgibcinbifaooaaDoorProg
namespace Go.Proofs
open Go.Shelf
def Tryd.lays169_ren : Go.Shelf.Ren := ⟨fun | 169 => 24 | n => n, fun | 70 => 50 | 9 => 9 | 0 => 0 | 72 => 53 | 37 => 51 | 127 => 64 | 3 => 3 | 5 => 5 | n => n, fun | n => n⟩
theorem Tryd.lays169 : Go.Proofs.Lays.n169 Tryd.prog Tryd.lays169_ren := {
  mixed := by kernel_rfl
  f169 := Tryd.func24.trans (congrArg some (by kernel_rfl))
  t0 := Tryd.underlying0
  a0 := Tryd.isAgg0
  z0 := Tryd.sizeOf0
  v0 := Tryd.zeroValue0
  t3 := Tryd.underlying3
  a3 := Tryd.isAgg3
  z3 := Tryd.sizeOf3
  v3 := Tryd.zeroValue3
  t9 := Tryd.underlying9
  a9 := Tryd.isAgg9
  z9 := Tryd.sizeOf9
  v9 := Tryd.zeroValue9
  t37 := Tryd.underlying51
  a37 := Tryd.isAgg51
  z37 := Tryd.sizeOf51
  v37 := Tryd.zeroValue51
  t70 := Tryd.underlying50
  a70 := Tryd.isAgg50
  z70 := Tryd.sizeOf50
  v70 := Tryd.zeroValue50
  t72 := Tryd.underlying53
  a72 := Tryd.isAgg53
  z72 := Tryd.sizeOf53
  v72 := Tryd.zeroValue53
  t127 := Tryd.underlying64
  a127 := Tryd.isAgg64
  z127 := Tryd.sizeOf64
  v127 := Tryd.zeroValue64 }
theorem Tryd.Builder_Extra_169 : Builder.Extra Tryd.prog Tryd.lays169_ren := {
  sizeBuilder := by kernel_rfl
  liesBuilder := by kernel_rfl
  t5 := Tryd.underlying5
  a5 := Tryd.isAgg5
  z5 := Tryd.sizeOf5
  v5 := Tryd.zeroValue5
  infoByte := by kernel_rfl
  cellsByte := by kernel_rfl
  sizeByte := by kernel_rfl
  neB5 := by decide }
open Go.RowKit in
/-- (*strings.Builder).String: "String returns the accumulated string.": OF A BUILDER THAT HOLDS AT LEAST ONE BYTE. ✋ THE MODEL FREEZES THOSE BYTES IN THE BUFFER (unsafe.String): a later write INTO them ends the model's run without an answer; a later append BEHIND them goes on. The statement's order of evaluation is drawn: one draw. (LAID: no walk: one application.) -/
theorem Tryd.Builder_String (B b : Nat) (l : List UInt8) (w : World) (h : Lib.IsBuilder 53 5 B b (Lib.byteCells l) w) (h0 : l ≠ []) :
    Calls Tryd.prog 24 #[.pointer (some ⟨b, 0, none⟩)] w fun e w' => e = .returned (.string ⟨l.toArray⟩) ∧ Below B w w' := Any.Builder_String Tryd.lays169 Tryd.Builder_Extra_169 B b l w h h0
open Go.RowKit in
/-- (*strings.Builder).String OF A BUILDER THAT HOLDS NO BYTE: the empty string. (Its buffer is nil, or a row of which it has taken nothing yet; where that row has NO capacity the model lays one new block for unsafe.SliceData's 'some address'.) One draw. (LAID: no walk: one application.) -/
theorem Tryd.Builder_String_empty (B b : Nat) (w : World) (h : Lib.IsBuilder 53 5 B b [] w) (hBw : B ≤ w.heap.size) :
    Calls Tryd.prog 24 #[.pointer (some ⟨b, 0, none⟩)] w fun e w' => e = .returned (.string ⟨#[]⟩) ∧ Below B w w' := Any.Builder_String_empty Tryd.lays169 Tryd.Builder_Extra_169 B b w h hBw
open Go.RowKit in
/-- (*strings.Builder).String: "String returns the accumulated string.": WHATEVER THE BUILDER HOLDS. (LAID: no walk: one application.) -/
theorem Tryd.Builder_String_any (B b : Nat) (l : List UInt8) (w : World) (h : Lib.IsBuilder 53 5 B b (Lib.byteCells l) w) (hBw : B ≤ w.heap.size) :
    Calls Tryd.prog 24 #[.pointer (some ⟨b, 0, none⟩)] w fun e w' => e = .returned (.string ⟨l.toArray⟩) ∧ Below B w w' := Any.Builder_String_any Tryd.lays169 Tryd.Builder_Extra_169 B b l w h hBw
def Tryd.lays120_ren : Go.Shelf.Ren := ⟨fun | 120 => 62 | n => n, fun | 5 => 5 | 4 => 4 | n => n, fun | n => n⟩
theorem Tryd.lays120 : Go.Proofs.Lays.n120 Tryd.prog Tryd.lays120_ren := {
  mixed := by kernel_rfl
  f120 := Tryd.func62.trans (congrArg some (by kernel_rfl))
  t4 := Tryd.underlying4
  a4 := Tryd.isAgg4
  z4 := Tryd.sizeOf4
  v4 := Tryd.zeroValue4
  t5 := Tryd.underlying5
  a5 := Tryd.isAgg5
  z5 := Tryd.sizeOf5
  v5 := Tryd.zeroValue5 }
/-- utf8.RuneStart: "RuneStart reports whether the byte could be the first byte of an encoded, possibly invalid rune. Second and subsequent bytes always have the top two bits set to 10.": IT RETURNS 'Lib.runeStart b'; the world is as it was. ('h0', 'h1': b is a byte: a caller has it of every byte that it was handed.) (LAID: no walk: one application.) -/
theorem Tryd.utf8_RuneStart (b : Int) (w : World) (h0 : 0 ≤ b) (h1 : b < 256) :
    Calls Tryd.prog 62 #[.int .u8 b] w fun e w' => e = .returned (.bool (Lib.runeStart b)) ∧ w' = w := Any.utf8_RuneStart Tryd.lays120 b w h0 h1
open Go.RowKit in
/-- (*strings.Builder).String: "String returns the accumulated string.": OF A BUILDER THAT HOLDS AT LEAST ONE BYTE. ✋ THE MODEL FREEZES THOSE BYTES IN THE BUFFER (unsafe.String): a later write INTO them ends the model's run without an answer; a later append BEHIND them goes on. The statement's order of evaluation is drawn: one draw. THE FORM '_f': IT SAYS BESIDES THAT THE BUILDER IS A BUILDER STILL ('Lib.IsBuilderF', the same bytes): SO IT CAN BE WRITTEN ON: 'b.WriteString(b.String()[:k])'. (LAID: no walk: one application.) -/
theorem Tryd.Builder_String_f (B b : Nat) (l : List UInt8) (w : World) (h : Lib.IsBuilderF 53 5 B b (Lib.byteCells l) w) (h0 : l ≠ []) :
    Calls Tryd.prog 24 #[.pointer (some ⟨b, 0, none⟩)] w fun e w' => e = .returned (.string ⟨l.toArray⟩) ∧ (Lib.IsBuilderF 53 5 B b (Lib.byteCells l) w' ∧ Below B w w') := Any.Builder_String_f Tryd.lays169 Tryd.Builder_Extra_169 B b l w h h0
open Go.RowKit in
/-- (*strings.Builder).String OF A BUILDER THAT HOLDS NO BYTE: the empty string; THE FORM '_f': a builder still. (LAID: no walk: one application.) -/
theorem Tryd.Builder_String_empty_f (B b : Nat) (w : World) (h : Lib.IsBuilderF 53 5 B b [] w) (hBw : B ≤ w.heap.size) :
    Calls Tryd.prog 24 #[.pointer (some ⟨b, 0, none⟩)] w fun e w' => e = .returned (.string ⟨#[]⟩) ∧ (Lib.IsBuilderF 53 5 B b [] w' ∧ Below B w w') := Any.Builder_String_empty_f Tryd.lays169 Tryd.Builder_Extra_169 B b w h hBw
open Go.RowKit in
/-- (*strings.Builder).String: "String returns the accumulated string.": WHATEVER THE BUILDER HOLDS; THE FORM '_f': OF A BUILDER THAT MAY HAVE BEEN READ BEFORE; AND IT IS A BUILDER STILL, holding the same bytes: it can be written on. (LAID: no walk: one application.) -/
theorem Tryd.Builder_String_any_f (B b : Nat) (l : List UInt8) (w : World) (h : Lib.IsBuilderF 53 5 B b (Lib.byteCells l) w) (hBw : B ≤ w.heap.size) :
    Calls Tryd.prog 24 #[.pointer (some ⟨b, 0, none⟩)] w fun e w' => e = .returned (.string ⟨l.toArray⟩) ∧ (Lib.IsBuilderF 53 5 B b (Lib.byteCells l) w' ∧ Below B w w') := Any.Builder_String_any_f Tryd.lays169 Tryd.Builder_Extra_169 B b l w h hBw
open Go.RowKit in
/-- (*strings.Builder).String: "String returns the accumulated string.": OF A BUILDER THAT HOLDS AT LEAST ONE BYTE. ✋ THE MODEL FREEZES THOSE BYTES IN THE BUFFER (unsafe.String): a later write INTO them ends the model's run without an answer; a later append BEHIND them goes on. The statement's order of evaluation is drawn: one draw. THE FORM '_k': OVER 'Lib.IsBuilderF' (a builder that 'String()' may have read), AND WITH THE FRAME THAT REACHES ABOVE THE BUILDER: 'Lib.OthersKept': every block that is not b and is no row of uint8's stands as it stood: the iterator of a range among them. (LAID: no walk: one application.) -/
theorem Tryd.Builder_String_k (B b : Nat) (l : List UInt8) (w : World) (h : Lib.IsBuilderF 53 5 B b (Lib.byteCells l) w) (h0 : l ≠ []) :
    Calls Tryd.prog 24 #[.pointer (some ⟨b, 0, none⟩)] w fun e w' => e = .returned (.string ⟨l.toArray⟩) ∧ (Lib.IsBuilderF 53 5 B b (Lib.byteCells l) w' ∧ Below B w w' ∧ Lib.OthersKept 5 (some b) w w') := Any.Builder_String_k Tryd.lays169 Tryd.Builder_Extra_169 B b l w h h0
open Go.RowKit in
/-- (*strings.Builder).String OF A BUILDER THAT HOLDS NO BYTE: the empty string; THE FORM '_k': OVER 'Lib.IsBuilderF' (a builder that 'String()' may have read), AND WITH THE FRAME THAT REACHES ABOVE THE BUILDER: 'Lib.OthersKept': every block that is not b and is no row of uint8's stands as it stood: the iterator of a range among them. (LAID: no walk: one application.) -/
theorem Tryd.Builder_String_empty_k (B b : Nat) (w : World) (h : Lib.IsBuilderF 53 5 B b [] w) (hBw : B ≤ w.heap.size) :
    Calls Tryd.prog 24 #[.pointer (some ⟨b, 0, none⟩)] w fun e w' => e = .returned (.string ⟨#[]⟩) ∧ (Lib.IsBuilderF 53 5 B b [] w' ∧ Below B w w' ∧ Lib.OthersKept 5 (some b) w w') := Any.Builder_String_empty_k Tryd.lays169 Tryd.Builder_Extra_169 B b w h hBw
open Go.RowKit in
/-- (*strings.Builder).String: "String returns the accumulated string.": WHATEVER THE BUILDER HOLDS; THE FORM '_k': OVER 'Lib.IsBuilderF' (a builder that 'String()' may have read), AND WITH THE FRAME THAT REACHES ABOVE THE BUILDER: 'Lib.OthersKept': every block that is not b and is no row of uint8's stands as it stood: the iterator of a range among them. (LAID: no walk: one application.) -/
theorem Tryd.Builder_String_any_k (B b : Nat) (l : List UInt8) (w : World) (h : Lib.IsBuilderF 53 5 B b (Lib.byteCells l) w) (hBw : B ≤ w.heap.size) :
    Calls Tryd.prog 24 #[.pointer (some ⟨b, 0, none⟩)] w fun e w' => e = .returned (.string ⟨l.toArray⟩) ∧ (Lib.IsBuilderF 53 5 B b (Lib.byteCells l) w' ∧ Below B w w' ∧ Lib.OthersKept 5 (some b) w w') := Any.Builder_String_any_k Tryd.lays169 Tryd.Builder_Extra_169 B b l w h hBw
def Tryd.lays244_ren : Go.Shelf.Ren := ⟨fun | 244 => 27 | 247 => 37 | 287 => 51 | 321 => 60 | 322 => 61 | n => n, fun | 9 => 9 | 3 => 3 | 75 => 30 | 4 => 4 | 5 => 5 | 167 => 65 | 37 => 51 | 0 => 0 | 85 => 66 | 2 => 2 | 53 => 75 | 175 => 83 | 46 => 85 | 21 => 21 | 80 => 55 | n => n, fun | n => n⟩
theorem Tryd.lays244 : Go.Proofs.Lays.n244 Tryd.prog Tryd.lays244_ren := {
  mixed := by kernel_rfl
  f244 := Tryd.func27.trans (congrArg some (by kernel_rfl))
  f247 := Tryd.func37.trans (congrArg some (by kernel_rfl))
  f287 := Tryd.func51.trans (congrArg some (by kernel_rfl))
  f321 := Tryd.func60.trans (congrArg some (by kernel_rfl))
  f322 := Tryd.func61.trans (congrArg some (by kernel_rfl))
  t0 := Tryd.underlying0
  a0 := Tryd.isAgg0
  z0 := Tryd.sizeOf0
  v0 := Tryd.zeroValue0
  t2 := Tryd.underlying2
  a2 := Tryd.isAgg2
  z2 := Tryd.sizeOf2
  v2 := Tryd.zeroValue2
  t3 := Tryd.underlying3
  a3 := Tryd.isAgg3
  z3 := Tryd.sizeOf3
  v3 := Tryd.zeroValue3
  t4 := Tryd.underlying4
  a4 := Tryd.isAgg4
  z4 := Tryd.sizeOf4
  v4 := Tryd.zeroValue4
  t5 := Tryd.underlying5
  a5 := Tryd.isAgg5
  z5 := Tryd.sizeOf5
  v5 := Tryd.zeroValue5
  t9 := Tryd.underlying9
  a9 := Tryd.isAgg9
  z9 := Tryd.sizeOf9
  v9 := Tryd.zeroValue9
  t21 := Tryd.underlying21
  a21 := Tryd.isAgg21
  z21 := Tryd.sizeOf21
  v21 := Tryd.zeroValue21
  t37 := Tryd.underlying51
  a37 := Tryd.isAgg51
  z37 := Tryd.sizeOf51
  v37 := Tryd.zeroValue51
  t46 := Tryd.underlying85
  a46 := Tryd.isAgg85
  z46 := Tryd.sizeOf85
  v46 := Tryd.zeroValue85
  t53 := Tryd.underlying75
  a53 := Tryd.isAgg75
  z53 := Tryd.sizeOf75
  v53 := Tryd.zeroValue75
  t75 := Tryd.underlying30
  a75 := Tryd.isAgg30
  z75 := Tryd.sizeOf30
  v75 := Tryd.zeroValue30
  t85 := Tryd.underlying66
  a85 := Tryd.isAgg66
  z85 := Tryd.sizeOf66
  v85 := Tryd.zeroValue66
  t167 := Tryd.underlying65
  a167 := Tryd.isAgg65
  z167 := Tryd.sizeOf65
  v167 := Tryd.zeroValue65
  t175 := Tryd.underlying83
  a175 := Tryd.isAgg83
  z175 := Tryd.sizeOf83
  v175 := Tryd.zeroValue83 }
open Go.RowKit in
/-- internal/strconv.Atoi, at a decimal numeral of at most 18 bytes: ITS VALUE, AND NO ERROR. The world behind the call: the one new row that '[]byte(s)' lays. (LAID: no walk: one application.) -/
theorem Tryd.internal_strconv_Atoi (s : ByteArray) (n : Int) (hl : s.size ≤ 18) (h : Lib.atoi s.data.toList = some n) (w : World) :
    Calls Tryd.prog 27 #[.string s] w fun e w' => e = .returned (.tuple #[.int .i64 n, .nilIface]) ∧ ∃ t, w' = Lib.bytesWorld w 5 t := Any.internal_strconv_Atoi Tryd.lays244 s n hl h w
def Tryd.lays172_ren : Go.Shelf.Ren := ⟨fun | 172 => 18 | 244 => 27 | 245 => 28 | 247 => 37 | 279 => 38 | 280 => 39 | 281 => 40 | 282 => 41 | 287 => 51 | 316 => 52 | 171 => 12 | 205 => 14 | 321 => 60 | 322 => 61 | 243 => 21 | 246 => 34 | 283 => 45 | 284 => 46 | 285 => 47 | 286 => 48 | 129 => 56 | 317 => 55 | 318 => 57 | 319 => 58 | 320 => 59 | 337 => 63 | 338 => 64 | n => n, fun | 9 => 9 | 3 => 3 | 75 => 30 | 76 => 42 | 4 => 4 | 5 => 5 | 167 => 65 | 37 => 51 | 0 => 0 | 85 => 66 | 2 => 2 | 168 => 68 | 53 => 75 | 175 => 83 | 46 => 85 | 210 => 87 | 127 => 64 | 145 => 48 | 143 => 46 | 21 => 21 | 171 => 74 | 173 => 78 | 212 => 90 | 51 => 82 | 20 => 20 | 213 => 91 | 232 => 101 | 233 => 102 | 80 => 55 | n => n, fun | 15 => 1 | 16 => 2 | 17 => 3 | 18 => 6 | 19 => 7 | n => n⟩
theorem Tryd.lays172 : Go.Proofs.Lays.n172 Tryd.prog Tryd.lays172_ren := {
  mixed := by kernel_rfl
  f129 := Tryd.func56.trans (congrArg some (by kernel_rfl))
  f171 := Tryd.func12.trans (congrArg some (by kernel_rfl))
  f172 := Tryd.func18.trans (congrArg some (by kernel_rfl))
  f205 := Tryd.func14.trans (congrArg some (by kernel_rfl))
  f243 := Tryd.func21.trans (congrArg some (by kernel_rfl))
  f244 := Tryd.func27.trans (congrArg some (by kernel_rfl))
  f245 := Tryd.func28.trans (congrArg some (by kernel_rfl))
  f246 := Tryd.func34.trans (congrArg some (by kernel_rfl))
  f247 := Tryd.func37.trans (congrArg some (by kernel_rfl))
  f279 := Tryd.func38.trans (congrArg some (by kernel_rfl))
  f280 := Tryd.func39.trans (congrArg some (by kernel_rfl))
  f281 := Tryd.func40.trans (congrArg some (by kernel_rfl))
  f282 := Tryd.func41.trans (congrArg some (by kernel_rfl))
  f283 := Tryd.func45.trans (congrArg some (by kernel_rfl))
  f284 := Tryd.func46.trans (congrArg some (by kernel_rfl))
  f285 := Tryd.func47.trans (congrArg some (by kernel_rfl))
  f286 := Tryd.func48.trans (congrArg some (by kernel_rfl))
  f287 := Tryd.func51.trans (congrArg some (by kernel_rfl))
  f316 := Tryd.func52.trans (congrArg some (by kernel_rfl))
  f317 := Tryd.func55.trans (congrArg some (by kernel_rfl))
  f318 := Tryd.func57.trans (congrArg some (by kernel_rfl))
  f319 := Tryd.func58.trans (congrArg some (by kernel_rfl))
  f320 := Tryd.func59.trans (congrArg some (by kernel_rfl))
  f321 := Tryd.func60.trans (congrArg some (by kernel_rfl))
  f322 := Tryd.func61.trans (congrArg some (by kernel_rfl))
  f337 := Tryd.func63.trans (congrArg some (by kernel_rfl))
  f338 := Tryd.func64.trans (congrArg some (by kernel_rfl))
  t0 := Tryd.underlying0
  a0 := Tryd.isAgg0
  z0 := Tryd.sizeOf0
  v0 := Tryd.zeroValue0
  t2 := Tryd.underlying2
  a2 := Tryd.isAgg2
  z2 := Tryd.sizeOf2
  v2 := Tryd.zeroValue2
  t3 := Tryd.underlying3
  a3 := Tryd.isAgg3
  z3 := Tryd.sizeOf3
  v3 := Tryd.zeroValue3
  t4 := Tryd.underlying4
  a4 := Tryd.isAgg4
  z4 := Tryd.sizeOf4
  v4 := Tryd.zeroValue4
  t5 := Tryd.underlying5
  a5 := Tryd.isAgg5
  z5 := Tryd.sizeOf5
  v5 := Tryd.zeroValue5
  t9 := Tryd.underlying9
  a9 := Tryd.isAgg9
  z9 := Tryd.sizeOf9
  v9 := Tryd.zeroValue9
  t20 := Tryd.underlying20
  a20 := Tryd.isAgg20
  z20 := Tryd.sizeOf20
  v20 := Tryd.zeroValue20
  t21 := Tryd.underlying21
  a21 := Tryd.isAgg21
  z21 := Tryd.sizeOf21
  v21 := Tryd.zeroValue21
  t37 := Tryd.underlying51
  a37 := Tryd.isAgg51
  z37 := Tryd.sizeOf51
  v37 := Tryd.zeroValue51
  t46 := Tryd.underlying85
  a46 := Tryd.isAgg85
  z46 := Tryd.sizeOf85
  v46 := Tryd.zeroValue85
  t51 := Tryd.underlying82
  a51 := Tryd.isAgg82
  z51 := Tryd.sizeOf82
  v51 := Tryd.zeroValue82
  t53 := Tryd.underlying75
  a53 := Tryd.isAgg75
  z53 := Tryd.sizeOf75
  v53 := Tryd.zeroValue75
  t75 := Tryd.underlying30
  a75 := Tryd.isAgg30
  z75 := Tryd.sizeOf30
  v75 := Tryd.zeroValue30
  t76 := Tryd.underlying42
  a76 := Tryd.isAgg42
  z76 := Tryd.sizeOf42
  v76 := Tryd.zeroValue42
  t85 := Tryd.underlying66
  a85 := Tryd.isAgg66
  z85 := Tryd.sizeOf66
  v85 := Tryd.zeroValue66
  t127 := Tryd.underlying64
  a127 := Tryd.isAgg64
  z127 := Tryd.sizeOf64
  v127 := Tryd.zeroValue64
  t143 := Tryd.underlying46
  a143 := Tryd.isAgg46
  z143 := Tryd.sizeOf46
  v143 := Tryd.zeroValue46
  t145 := Tryd.underlying48
  a145 := Tryd.isAgg48
  z145 := Tryd.sizeOf48
  v145 := Tryd.zeroValue48
  t167 := Tryd.underlying65
  a167 := Tryd.isAgg65
  z167 := Tryd.sizeOf65
  v167 := Tryd.zeroValue65
  t168 := Tryd.underlying68
  a168 := Tryd.isAgg68
  z168 := Tryd.sizeOf68
  v168 := Tryd.zeroValue68
  t171 := Tryd.underlying74
  a171 := Tryd.isAgg74
  z171 := Tryd.sizeOf74
  v171 := Tryd.zeroValue74
  t173 := Tryd.underlying78
  a173 := Tryd.isAgg78
  z173 := Tryd.sizeOf78
  v173 := Tryd.zeroValue78
  t175 := Tryd.underlying83
  a175 := Tryd.isAgg83
  z175 := Tryd.sizeOf83
  v175 := Tryd.zeroValue83
  t210 := Tryd.underlying87
  a210 := Tryd.isAgg87
  z210 := Tryd.sizeOf87
  v210 := Tryd.zeroValue87
  t212 := Tryd.underlying90
  a212 := Tryd.isAgg90
  z212 := Tryd.sizeOf90
  v212 := Tryd.zeroValue90
  t213 := Tryd.underlying91
  a213 := Tryd.isAgg91
  z213 := Tryd.sizeOf91
  t232 := Tryd.underlying101
  a232 := Tryd.isAgg101
  z232 := Tryd.sizeOf101
  v232 := Tryd.zeroValue101
  t233 := Tryd.underlying102
  a233 := Tryd.isAgg102
  z233 := Tryd.sizeOf102
  v233 := Tryd.zeroValue102
  g15 := by kernel_rfl
  g16 := by kernel_rfl
  g17 := by kernel_rfl
  g18 := by kernel_rfl
  g19 := by kernel_rfl }
open Go.RowKit in
/-- strconv.Atoi: "Atoi is equivalent to ParseInt(s, 10, 0), converted to type int.": AT A DECIMAL NUMERAL OF AT MOST 18 BYTES: its value, and a nil error. The world behind the call: the one new row that the library's '[]byte(s)' lays. (LAID: no walk: one application.) -/
theorem Tryd.strconv_Atoi (s : ByteArray) (n : Int) (hl : s.size ≤ 18) (h : Lib.atoi s.data.toList = some n) (w : World) :
    Calls Tryd.prog 18 #[.string s] w fun e w' => e = .returned (.tuple #[.int .i64 n, .nilIface]) ∧ ∃ t, w' = Lib.bytesWorld w 5 t := Any.strconv_Atoi Tryd.lays172 s n hl h w
def Tryd.lays129_ren : Go.Shelf.Ren := ⟨fun | 129 => 56 | n => n, fun | 53 => 75 | 3 => 3 | 4 => 4 | 46 => 85 | 5 => 5 | 9 => 9 | n => n, fun | n => n⟩
theorem Tryd.lays129 : Go.Proofs.Lays.n129 Tryd.prog Tryd.lays129_ren := {
  mixed := by kernel_rfl
  f129 := Tryd.func56.trans (congrArg some (by kernel_rfl))
  t3 := Tryd.underlying3
  a3 := Tryd.isAgg3
  z3 := Tryd.sizeOf3
  v3 := Tryd.zeroValue3
  t4 := Tryd.underlying4
  a4 := Tryd.isAgg4
  z4 := Tryd.sizeOf4
  v4 := Tryd.zeroValue4
  t5 := Tryd.underlying5
  a5 := Tryd.isAgg5
  z5 := Tryd.sizeOf5
  v5 := Tryd.zeroValue5
  t9 := Tryd.underlying9
  a9 := Tryd.isAgg9
  z9 := Tryd.sizeOf9
  v9 := Tryd.zeroValue9
  t46 := Tryd.underlying85
  a46 := Tryd.isAgg85
  z46 := Tryd.sizeOf85
  v46 := Tryd.zeroValue85
  t53 := Tryd.underlying75
  a53 := Tryd.isAgg75
  z53 := Tryd.sizeOf75
  v53 := Tryd.zeroValue75 }
/-- bits.Len64: "Len64 returns the minimum number of bits required to represent x; the result is 0 for x == 0.": IT RETURNS 'Lib.bitLen x'; the world is as it was. ('h0', 'h1': x is a uint64.) (LAID: no walk: one application.) -/
theorem Tryd.bits_Len64 (x : Int) (w : World) (h0 : 0 ≤ x) (h1 : x ≤ 18446744073709551615) :
    Calls Tryd.prog 56 #[.int .u64 x] w fun e w' => e = .returned (.int .i64 (Lib.bitLen x.toNat)) ∧ w' = w := Any.bits_Len64 Tryd.lays129 x w h0 h1
def Tryd.lays317_ren : Go.Shelf.Ren := ⟨fun | 317 => 55 | n => n, fun | 3 => 3 | 46 => 85 | n => n, fun | n => n⟩
theorem Tryd.lays317 : Go.Proofs.Lays.n317 Tryd.prog Tryd.lays317_ren := {
  mixed := by kernel_rfl
  f317 := Tryd.func55.trans (congrArg some (by kernel_rfl))
  t3 := Tryd.underlying3
  a3 := Tryd.isAgg3
  z3 := Tryd.sizeOf3
  v3 := Tryd.zeroValue3
  t46 := Tryd.underlying85
  a46 := Tryd.isAgg85
  z46 := Tryd.sizeOf85
  v46 := Tryd.zeroValue85 }
open Go.Lib in
/-- internal/strconv.log10Pow2: "log10Pow2(x) returns ⌊log₁₀ 2**x⌋ = ⌊x * log₁₀ 2⌋.": '(x * 78913) >> 18', at an x up to 64 (a length in bits). The world is as it was. (LAID: no walk: one application.) -/
theorem Tryd.internal_strconv_log10Pow2 (x : Nat) (h : x ≤ 64) (w : World) :
    Calls Tryd.prog 55 #[.int .i64 x] w fun e w' => e = .returned (.int .i64 (Lib.l10 x)) ∧ w' = w := Any.internal_strconv_log10Pow2 Tryd.lays317 x h w
def Tryd.lays318_ren : Go.Shelf.Ren := ⟨fun | 318 => 57 | n => n, fun | 3 => 3 | 4 => 4 | n => n, fun | n => n⟩
theorem Tryd.lays318 : Go.Proofs.Lays.n318 Tryd.prog Tryd.lays318_ren := {
  mixed := by kernel_rfl
  f318 := Tryd.func57.trans (congrArg some (by kernel_rfl))
  t3 := Tryd.underlying3
  a3 := Tryd.isAgg3
  z3 := Tryd.sizeOf3
  v3 := Tryd.zeroValue3
  t4 := Tryd.underlying4
  a4 := Tryd.isAgg4
  z4 := Tryd.sizeOf4
  v4 := Tryd.zeroValue4 }
open Go.Lib in
/-- internal/strconv.bool2: "bool2 converts b to an integer: 1 for true, 0 for false." The world is as it was. (LAID: no walk: one application.) -/
theorem Tryd.internal_strconv_bool2_int (b : Bool) (w : World) :
    Calls Tryd.prog 57 #[.bool b] w fun e w' => e = .returned (.int .i64 (if b then 1 else 0)) ∧ w' = w := Any.internal_strconv_bool2_int Tryd.lays318 b w
def Tryd.lays283_ren : Go.Shelf.Ren := ⟨fun | 283 => 45 | n => n, fun | 3 => 3 | 9 => 9 | 4 => 4 | n => n, fun | n => n⟩
theorem Tryd.lays283 : Go.Proofs.Lays.n283 Tryd.prog Tryd.lays283_ren := {
  mixed := by kernel_rfl
  f283 := Tryd.func45.trans (congrArg some (by kernel_rfl))
  t3 := Tryd.underlying3
  a3 := Tryd.isAgg3
  z3 := Tryd.sizeOf3
  v3 := Tryd.zeroValue3
  t4 := Tryd.underlying4
  a4 := Tryd.isAgg4
  z4 := Tryd.sizeOf4
  v4 := Tryd.zeroValue4
  t9 := Tryd.underlying9
  a9 := Tryd.isAgg9
  z9 := Tryd.sizeOf9
  v9 := Tryd.zeroValue9 }
open Go.Lib in
/-- internal/strconv.small: "small returns the string for an i with 0 <= i < nSmalls.": i's decimal numeral. The world is as it was. (LAID: no walk: one application.) -/
theorem Tryd.internal_strconv_small (i : Nat) (h : i < 100) (w : World) :
    Calls Tryd.prog 45 #[.int .i64 i] w fun e w' => e = .returned (.string ⟨(Lib.decDigits i).toArray⟩) ∧ w' = w := Any.internal_strconv_small Tryd.lays283 i h w
def Tryd.laysM284_ren : Go.Shelf.Ren := ⟨fun | 284 => 46 | 129 => 56 | 317 => 55 | 318 => 57 | n => n, fun | 53 => 75 | 3 => 3 | 212 => 90 | 0 => 0 | 4 => 4 | 46 => 85 | 5 => 5 | 9 => 9 | n => n, fun | 17 => 3 | n => n⟩
theorem Tryd.laysM284 : Go.Proofs.LaysM.n284 Tryd.prog Tryd.laysM284_ren := {
  mixed := by kernel_rfl
  f129 := Tryd.func56.trans (congrArg some (by kernel_rfl))
  f284 := Tryd.func46.trans (congrArg some (by kernel_rfl))
  f317 := Tryd.func55.trans (congrArg some (by kernel_rfl))
  f318 := Tryd.func57.trans (congrArg some (by kernel_rfl))
  t0 := Tryd.underlying0
  a0 := Tryd.isAgg0
  z0 := Tryd.sizeOf0
  v0 := Tryd.zeroValue0
  t3 := Tryd.underlying3
  a3 := Tryd.isAgg3
  z3 := Tryd.sizeOf3
  v3 := Tryd.zeroValue3
  t4 := Tryd.underlying4
  a4 := Tryd.isAgg4
  z4 := Tryd.sizeOf4
  v4 := Tryd.zeroValue4
  t5 := Tryd.underlying5
  a5 := Tryd.isAgg5
  z5 := Tryd.sizeOf5
  v5 := Tryd.zeroValue5
  t9 := Tryd.underlying9
  a9 := Tryd.isAgg9
  z9 := Tryd.sizeOf9
  v9 := Tryd.zeroValue9
  t46 := Tryd.underlying85
  a46 := Tryd.isAgg85
  z46 := Tryd.sizeOf85
  v46 := Tryd.zeroValue85
  t53 := Tryd.underlying75
  a53 := Tryd.isAgg75
  z53 := Tryd.sizeOf75
  v53 := Tryd.zeroValue75
  t212 := Tryd.underlying90
  a212 := Tryd.isAgg90
  z212 := Tryd.sizeOf90
  v212 := Tryd.zeroValue90
  g17 := by kernel_rfl
  i0 := by kernel_rfl
  i3 := by kernel_rfl
  i4 := by kernel_rfl
  i5 := by kernel_rfl
  i9 := by kernel_rfl
  i46 := by kernel_rfl
  i53 := by kernel_rfl
  i212 := by kernel_rfl
  m17 := by kernel_rfl }
open Go.Lib in
/-- internal/strconv.numDigits, at a d that is not 0: THE NUMBER OF d's DECIMAL DIGITS. The world is as it was. (LAID: no walk: one application.) -/
theorem Tryd.internal_strconv_numDigits (u : Nat) (h1 : 1 ≤ u) (h2 : u < 18446744073709551616) (w : World) (htab : Lib.TabIs Tryd.prog w "internal/strconv.uint64pow10" .u64 Lib.pow10Tab) :
    Calls Tryd.prog 46 #[.int .u64 u] w fun e w' => e = .returned (.int .i64 (Lib.nDigits u)) ∧ w' = w := Any.internal_strconv_numDigits Tryd.laysM284 u h1 h2 w htab
def Tryd.lays285_ren : Go.Shelf.Ren := ⟨fun | 285 => 47 | n => n, fun | 37 => 51 | 53 => 75 | 3 => 3 | 4 => 4 | 51 => 82 | 9 => 9 | 5 => 5 | 0 => 0 | n => n, fun | n => n⟩
theorem Tryd.lays285 : Go.Proofs.Lays.n285 Tryd.prog Tryd.lays285_ren := {
  mixed := by kernel_rfl
  f285 := Tryd.func47.trans (congrArg some (by kernel_rfl))
  t0 := Tryd.underlying0
  a0 := Tryd.isAgg0
  z0 := Tryd.sizeOf0
  v0 := Tryd.zeroValue0
  t3 := Tryd.underlying3
  a3 := Tryd.isAgg3
  z3 := Tryd.sizeOf3
  v3 := Tryd.zeroValue3
  t4 := Tryd.underlying4
  a4 := Tryd.isAgg4
  z4 := Tryd.sizeOf4
  v4 := Tryd.zeroValue4
  t5 := Tryd.underlying5
  a5 := Tryd.isAgg5
  z5 := Tryd.sizeOf5
  v5 := Tryd.zeroValue5
  t9 := Tryd.underlying9
  a9 := Tryd.isAgg9
  z9 := Tryd.sizeOf9
  v9 := Tryd.zeroValue9
  t37 := Tryd.underlying51
  a37 := Tryd.isAgg51
  z37 := Tryd.sizeOf51
  v37 := Tryd.zeroValue51
  t51 := Tryd.underlying82
  a51 := Tryd.isAgg82
  z51 := Tryd.sizeOf82
  v51 := Tryd.zeroValue82
  t53 := Tryd.underlying75
  a53 := Tryd.isAgg75
  z53 := Tryd.sizeOf75
  v53 := Tryd.zeroValue75 }
open Go.RowKit Go.Sort Go.Lib in
/-- internal/strconv.formatBase10: "formatBase10 formats the decimal representation of u into a. The caller is responsible for ensuring that a is big enough to hold u. If a is too big, leading zeros will be filled in as needed.": THE ROW HOLDS u's DIGITS ('FmtInv .. 0 ..': every place t holds 'dg u (len - 1 - t)'); all else is as it was but for the count of draws. (LAID: no walk: one application.) -/
theorem Tryd.internal_strconv_formatBase10 (blk off cap : Nat) (u : Nat) (d : Array UInt8) (w : World) (hH : Holds (fun (b : UInt8) => Value.int .u8 (b.toNat : Int)) w blk off d) (hu : u < 10 ^ d.size) (hu64 : u < 18446744073709551616) (hsz : d.size < 4611686018427387904) :
    Calls Tryd.prog 47 #[.slice (some ⟨blk, off, none⟩) d.size cap, .int .u64 u] w fun e w' =>
      e = .returned (.tuple #[]) ∧ ∃ (n v' : Nat) (dk : Array UInt8), w' = (putRow (fun (b : UInt8) => Value.int .u8 (b.toNat : Int)) w blk off dk).drewN n ∧ FmtInv d.size u 0 v' dk := Any.internal_strconv_formatBase10 Tryd.lays285 blk off cap u d w hH hu hu64 hsz
def Tryd.laysM246_ren : Go.Shelf.Ren := ⟨fun | 246 => 34 | 283 => 45 | 284 => 46 | 285 => 47 | 286 => 48 | 129 => 56 | 317 => 55 | 318 => 57 | 319 => 58 | 320 => 59 | 337 => 63 | 338 => 64 | n => n, fun | 2 => 2 | 3 => 3 | 9 => 9 | 4 => 4 | 171 => 74 | 0 => 0 | 53 => 75 | 37 => 51 | 5 => 5 | 173 => 78 | 212 => 90 | 51 => 82 | 20 => 20 | 213 => 91 | 46 => 85 | 232 => 101 | 233 => 102 | n => n, fun | 17 => 3 | 18 => 6 | 19 => 7 | n => n⟩
theorem Tryd.laysM246 : Go.Proofs.LaysM.n246 Tryd.prog Tryd.laysM246_ren := {
  mixed := by kernel_rfl
  f129 := Tryd.func56.trans (congrArg some (by kernel_rfl))
  f246 := Tryd.func34.trans (congrArg some (by kernel_rfl))
  f283 := Tryd.func45.trans (congrArg some (by kernel_rfl))
  f284 := Tryd.func46.trans (congrArg some (by kernel_rfl))
  f285 := Tryd.func47.trans (congrArg some (by kernel_rfl))
  f286 := Tryd.func48.trans (congrArg some (by kernel_rfl))
  f317 := Tryd.func55.trans (congrArg some (by kernel_rfl))
  f318 := Tryd.func57.trans (congrArg some (by kernel_rfl))
  f319 := Tryd.func58.trans (congrArg some (by kernel_rfl))
  f320 := Tryd.func59.trans (congrArg some (by kernel_rfl))
  f337 := Tryd.func63.trans (congrArg some (by kernel_rfl))
  f338 := Tryd.func64.trans (congrArg some (by kernel_rfl))
  t0 := Tryd.underlying0
  a0 := Tryd.isAgg0
  z0 := Tryd.sizeOf0
  v0 := Tryd.zeroValue0
  t2 := Tryd.underlying2
  a2 := Tryd.isAgg2
  z2 := Tryd.sizeOf2
  v2 := Tryd.zeroValue2
  t3 := Tryd.underlying3
  a3 := Tryd.isAgg3
  z3 := Tryd.sizeOf3
  v3 := Tryd.zeroValue3
  t4 := Tryd.underlying4
  a4 := Tryd.isAgg4
  z4 := Tryd.sizeOf4
  v4 := Tryd.zeroValue4
  t5 := Tryd.underlying5
  a5 := Tryd.isAgg5
  z5 := Tryd.sizeOf5
  v5 := Tryd.zeroValue5
  t9 := Tryd.underlying9
  a9 := Tryd.isAgg9
  z9 := Tryd.sizeOf9
  v9 := Tryd.zeroValue9
  t20 := Tryd.underlying20
  a20 := Tryd.isAgg20
  z20 := Tryd.sizeOf20
  v20 := Tryd.zeroValue20
  t37 := Tryd.underlying51
  a37 := Tryd.isAgg51
  z37 := Tryd.sizeOf51
  v37 := Tryd.zeroValue51
  t46 := Tryd.underlying85
  a46 := Tryd.isAgg85
  z46 := Tryd.sizeOf85
  v46 := Tryd.zeroValue85
  t51 := Tryd.underlying82
  a51 := Tryd.isAgg82
  z51 := Tryd.sizeOf82
  v51 := Tryd.zeroValue82
  t53 := Tryd.underlying75
  a53 := Tryd.isAgg75
  z53 := Tryd.sizeOf75
  v53 := Tryd.zeroValue75
  t171 := Tryd.underlying74
  a171 := Tryd.isAgg74
  z171 := Tryd.sizeOf74
  v171 := Tryd.zeroValue74
  t173 := Tryd.underlying78
  a173 := Tryd.isAgg78
  z173 := Tryd.sizeOf78
  v173 := Tryd.zeroValue78
  t212 := Tryd.underlying90
  a212 := Tryd.isAgg90
  z212 := Tryd.sizeOf90
  v212 := Tryd.zeroValue90
  t213 := Tryd.underlying91
  a213 := Tryd.isAgg91
  z213 := Tryd.sizeOf91
  t232 := Tryd.underlying101
  a232 := Tryd.isAgg101
  z232 := Tryd.sizeOf101
  v232 := Tryd.zeroValue101
  t233 := Tryd.underlying102
  a233 := Tryd.isAgg102
  z233 := Tryd.sizeOf102
  v233 := Tryd.zeroValue102
  g17 := by kernel_rfl
  g18 := by kernel_rfl
  g19 := by kernel_rfl
  i0 := by kernel_rfl
  i2 := by kernel_rfl
  i3 := by kernel_rfl
  i4 := by kernel_rfl
  i5 := by kernel_rfl
  i9 := by kernel_rfl
  i20 := by kernel_rfl
  i37 := by kernel_rfl
  i46 := by kernel_rfl
  i51 := by kernel_rfl
  i53 := by kernel_rfl
  i171 := by kernel_rfl
  i173 := by kernel_rfl
  i212 := by kernel_rfl
  i232 := by kernel_rfl
  i233 := by kernel_rfl
  m17 := by kernel_rfl
  m18 := by kernel_rfl
  m19 := by kernel_rfl }
open Go.RowKit Go.Sort Go.Lib in
/-- internal/strconv.FormatInt: "FormatInt returns the string representation of i in the given base": AT BASE 10: i's decimal numeral, for every int64. The world behind the call: the world before it, new blocks behind the heap, draws. (LAID: no walk: one application.) -/
theorem Tryd.internal_strconv_FormatInt_10 (n : Int) (h0 : -9223372036854775808 ≤ n) (h1 : n ≤ 9223372036854775807) (w : World) (htab : Lib.TabIs Tryd.prog w "internal/strconv.uint64pow10" .u64 Lib.pow10Tab) :
    Calls Tryd.prog 34 #[.int .i64 n, .int .i64 10] w fun e w' => e = .returned (.string ⟨(Lib.itoa n).toArray⟩) ∧ ∃ k os, w' = grow (w.drewN k) os := Any.internal_strconv_FormatInt_10 Tryd.laysM246 n h0 h1 w htab
def Tryd.lays246_ren : Go.Shelf.Ren := ⟨fun | 246 => 34 | 283 => 45 | 284 => 46 | 285 => 47 | 286 => 48 | 129 => 56 | 317 => 55 | 318 => 57 | 319 => 58 | 320 => 59 | 337 => 63 | 338 => 64 | n => n, fun | 2 => 2 | 3 => 3 | 9 => 9 | 4 => 4 | 171 => 74 | 0 => 0 | 53 => 75 | 37 => 51 | 5 => 5 | 173 => 78 | 212 => 90 | 51 => 82 | 20 => 20 | 213 => 91 | 46 => 85 | 232 => 101 | 233 => 102 | n => n, fun | 17 => 3 | 18 => 6 | 19 => 7 | n => n⟩
theorem Tryd.lays246 : Go.Proofs.Lays.n246 Tryd.prog Tryd.lays246_ren := {
  mixed := by kernel_rfl
  f129 := Tryd.func56.trans (congrArg some (by kernel_rfl))
  f246 := Tryd.func34.trans (congrArg some (by kernel_rfl))
  f283 := Tryd.func45.trans (congrArg some (by kernel_rfl))
  f284 := Tryd.func46.trans (congrArg some (by kernel_rfl))
  f285 := Tryd.func47.trans (congrArg some (by kernel_rfl))
  f286 := Tryd.func48.trans (congrArg some (by kernel_rfl))
  f317 := Tryd.func55.trans (congrArg some (by kernel_rfl))
  f318 := Tryd.func57.trans (congrArg some (by kernel_rfl))
  f319 := Tryd.func58.trans (congrArg some (by kernel_rfl))
  f320 := Tryd.func59.trans (congrArg some (by kernel_rfl))
  f337 := Tryd.func63.trans (congrArg some (by kernel_rfl))
  f338 := Tryd.func64.trans (congrArg some (by kernel_rfl))
  t0 := Tryd.underlying0
  a0 := Tryd.isAgg0
  z0 := Tryd.sizeOf0
  v0 := Tryd.zeroValue0
  t2 := Tryd.underlying2
  a2 := Tryd.isAgg2
  z2 := Tryd.sizeOf2
  v2 := Tryd.zeroValue2
  t3 := Tryd.underlying3
  a3 := Tryd.isAgg3
  z3 := Tryd.sizeOf3
  v3 := Tryd.zeroValue3
  t4 := Tryd.underlying4
  a4 := Tryd.isAgg4
  z4 := Tryd.sizeOf4
  v4 := Tryd.zeroValue4
  t5 := Tryd.underlying5
  a5 := Tryd.isAgg5
  z5 := Tryd.sizeOf5
  v5 := Tryd.zeroValue5
  t9 := Tryd.underlying9
  a9 := Tryd.isAgg9
  z9 := Tryd.sizeOf9
  v9 := Tryd.zeroValue9
  t20 := Tryd.underlying20
  a20 := Tryd.isAgg20
  z20 := Tryd.sizeOf20
  v20 := Tryd.zeroValue20
  t37 := Tryd.underlying51
  a37 := Tryd.isAgg51
  z37 := Tryd.sizeOf51
  v37 := Tryd.zeroValue51
  t46 := Tryd.underlying85
  a46 := Tryd.isAgg85
  z46 := Tryd.sizeOf85
  v46 := Tryd.zeroValue85
  t51 := Tryd.underlying82
  a51 := Tryd.isAgg82
  z51 := Tryd.sizeOf82
  v51 := Tryd.zeroValue82
  t53 := Tryd.underlying75
  a53 := Tryd.isAgg75
  z53 := Tryd.sizeOf75
  v53 := Tryd.zeroValue75
  t171 := Tryd.underlying74
  a171 := Tryd.isAgg74
  z171 := Tryd.sizeOf74
  v171 := Tryd.zeroValue74
  t173 := Tryd.underlying78
  a173 := Tryd.isAgg78
  z173 := Tryd.sizeOf78
  v173 := Tryd.zeroValue78
  t212 := Tryd.underlying90
  a212 := Tryd.isAgg90
  z212 := Tryd.sizeOf90
  v212 := Tryd.zeroValue90
  t213 := Tryd.underlying91
  a213 := Tryd.isAgg91
  z213 := Tryd.sizeOf91
  t232 := Tryd.underlying101
  a232 := Tryd.isAgg101
  z232 := Tryd.sizeOf101
  v232 := Tryd.zeroValue101
  t233 := Tryd.underlying102
  a233 := Tryd.isAgg102
  z233 := Tryd.sizeOf102
  v233 := Tryd.zeroValue102
  g17 := by kernel_rfl
  g18 := by kernel_rfl
  g19 := by kernel_rfl }
open Go.RowKit Go.Sort Go.Lib in
/-- THE ROAD WITHOUT THE TABLE: 0 <= i < 100: two constants are read, nothing is laid: no premise on the world, and the world is as it was. (LAID: no walk: one application.) -/
theorem Tryd.internal_strconv_FormatInt_10_small (i : Nat) (hi : i < 100) (w : World) :
    Calls Tryd.prog 34 #[.int .i64 i, .int .i64 10] w fun e w' => e = .returned (.string ⟨(Lib.decDigits i).toArray⟩) ∧ w' = w := Any.internal_strconv_FormatInt_10_small Tryd.lays246 i hi w
def Tryd.laysM243_ren : Go.Shelf.Ren := ⟨fun | 243 => 21 | 246 => 34 | 283 => 45 | 284 => 46 | 285 => 47 | 286 => 48 | 129 => 56 | 317 => 55 | 318 => 57 | 319 => 58 | 320 => 59 | 337 => 63 | 338 => 64 | n => n, fun | 3 => 3 | 9 => 9 | 2 => 2 | 4 => 4 | 171 => 74 | 0 => 0 | 53 => 75 | 37 => 51 | 5 => 5 | 173 => 78 | 212 => 90 | 51 => 82 | 20 => 20 | 213 => 91 | 46 => 85 | 232 => 101 | 233 => 102 | n => n, fun | 17 => 3 | 18 => 6 | 19 => 7 | n => n⟩
theorem Tryd.laysM243 : Go.Proofs.LaysM.n243 Tryd.prog Tryd.laysM243_ren := {
  mixed := by kernel_rfl
  f129 := Tryd.func56.trans (congrArg some (by kernel_rfl))
  f243 := Tryd.func21.trans (congrArg some (by kernel_rfl))
  f246 := Tryd.func34.trans (congrArg some (by kernel_rfl))
  f283 := Tryd.func45.trans (congrArg some (by kernel_rfl))
  f284 := Tryd.func46.trans (congrArg some (by kernel_rfl))
  f285 := Tryd.func47.trans (congrArg some (by kernel_rfl))
  f286 := Tryd.func48.trans (congrArg some (by kernel_rfl))
  f317 := Tryd.func55.trans (congrArg some (by kernel_rfl))
  f318 := Tryd.func57.trans (congrArg some (by kernel_rfl))
  f319 := Tryd.func58.trans (congrArg some (by kernel_rfl))
  f320 := Tryd.func59.trans (congrArg some (by kernel_rfl))
  f337 := Tryd.func63.trans (congrArg some (by kernel_rfl))
  f338 := Tryd.func64.trans (congrArg some (by kernel_rfl))
  t0 := Tryd.underlying0
  a0 := Tryd.isAgg0
  z0 := Tryd.sizeOf0
  v0 := Tryd.zeroValue0
  t2 := Tryd.underlying2
  a2 := Tryd.isAgg2
  z2 := Tryd.sizeOf2
  v2 := Tryd.zeroValue2
  t3 := Tryd.underlying3
  a3 := Tryd.isAgg3
  z3 := Tryd.sizeOf3
  v3 := Tryd.zeroValue3
  t4 := Tryd.underlying4
  a4 := Tryd.isAgg4
  z4 := Tryd.sizeOf4
  v4 := Tryd.zeroValue4
  t5 := Tryd.underlying5
  a5 := Tryd.isAgg5
  z5 := Tryd.sizeOf5
  v5 := Tryd.zeroValue5
  t9 := Tryd.underlying9
  a9 := Tryd.isAgg9
  z9 := Tryd.sizeOf9
  v9 := Tryd.zeroValue9
  t20 := Tryd.underlying20
  a20 := Tryd.isAgg20
  z20 := Tryd.sizeOf20
  v20 := Tryd.zeroValue20
  t37 := Tryd.underlying51
  a37 := Tryd.isAgg51
  z37 := Tryd.sizeOf51
  v37 := Tryd.zeroValue51
  t46 := Tryd.underlying85
  a46 := Tryd.isAgg85
  z46 := Tryd.sizeOf85
  v46 := Tryd.zeroValue85
  t51 := Tryd.underlying82
  a51 := Tryd.isAgg82
  z51 := Tryd.sizeOf82
  v51 := Tryd.zeroValue82
  t53 := Tryd.underlying75
  a53 := Tryd.isAgg75
  z53 := Tryd.sizeOf75
  v53 := Tryd.zeroValue75
  t171 := Tryd.underlying74
  a171 := Tryd.isAgg74
  z171 := Tryd.sizeOf74
  v171 := Tryd.zeroValue74
  t173 := Tryd.underlying78
  a173 := Tryd.isAgg78
  z173 := Tryd.sizeOf78
  v173 := Tryd.zeroValue78
  t212 := Tryd.underlying90
  a212 := Tryd.isAgg90
  z212 := Tryd.sizeOf90
  v212 := Tryd.zeroValue90
  t213 := Tryd.underlying91
  a213 := Tryd.isAgg91
  z213 := Tryd.sizeOf91
  t232 := Tryd.underlying101
  a232 := Tryd.isAgg101
  z232 := Tryd.sizeOf101
  v232 := Tryd.zeroValue101
  t233 := Tryd.underlying102
  a233 := Tryd.isAgg102
  z233 := Tryd.sizeOf102
  v233 := Tryd.zeroValue102
  g17 := by kernel_rfl
  g18 := by kernel_rfl
  g19 := by kernel_rfl
  i0 := by kernel_rfl
  i2 := by kernel_rfl
  i3 := by kernel_rfl
  i4 := by kernel_rfl
  i5 := by kernel_rfl
  i9 := by kernel_rfl
  i20 := by kernel_rfl
  i37 := by kernel_rfl
  i46 := by kernel_rfl
  i51 := by kernel_rfl
  i53 := by kernel_rfl
  i171 := by kernel_rfl
  i173 := by kernel_rfl
  i212 := by kernel_rfl
  i232 := by kernel_rfl
  i233 := by kernel_rfl
  m17 := by kernel_rfl
  m18 := by kernel_rfl
  m19 := by kernel_rfl }
open Go.RowKit Go.Sort Go.Lib in
/-- internal/strconv.Itoa: "Itoa is equivalent to FormatInt(int64(i), 10).": i's decimal numeral, for every int. (LAID: no walk: one application.) -/
theorem Tryd.internal_strconv_Itoa (n : Int) (h0 : -9223372036854775808 ≤ n) (h1 : n ≤ 9223372036854775807) (w : World) (htab : Lib.TabIs Tryd.prog w "internal/strconv.uint64pow10" .u64 Lib.pow10Tab) :
    Calls Tryd.prog 21 #[.int .i64 n] w fun e w' => e = .returned (.string ⟨(Lib.itoa n).toArray⟩) ∧ ∃ k os, w' = grow (w.drewN k) os := Any.internal_strconv_Itoa Tryd.laysM243 n h0 h1 w htab
def Tryd.lays243_ren : Go.Shelf.Ren := ⟨fun | 243 => 21 | 246 => 34 | 283 => 45 | 284 => 46 | 285 => 47 | 286 => 48 | 129 => 56 | 317 => 55 | 318 => 57 | 319 => 58 | 320 => 59 | 337 => 63 | 338 => 64 | n => n, fun | 3 => 3 | 9 => 9 | 2 => 2 | 4 => 4 | 171 => 74 | 0 => 0 | 53 => 75 | 37 => 51 | 5 => 5 | 173 => 78 | 212 => 90 | 51 => 82 | 20 => 20 | 213 => 91 | 46 => 85 | 232 => 101 | 233 => 102 | n => n, fun | 17 => 3 | 18 => 6 | 19 => 7 | n => n⟩
theorem Tryd.lays243 : Go.Proofs.Lays.n243 Tryd.prog Tryd.lays243_ren := {
  mixed := by kernel_rfl
  f129 := Tryd.func56.trans (congrArg some (by kernel_rfl))
  f243 := Tryd.func21.trans (congrArg some (by kernel_rfl))
  f246 := Tryd.func34.trans (congrArg some (by kernel_rfl))
  f283 := Tryd.func45.trans (congrArg some (by kernel_rfl))
  f284 := Tryd.func46.trans (congrArg some (by kernel_rfl))
  f285 := Tryd.func47.trans (congrArg some (by kernel_rfl))
  f286 := Tryd.func48.trans (congrArg some (by kernel_rfl))
  f317 := Tryd.func55.trans (congrArg some (by kernel_rfl))
  f318 := Tryd.func57.trans (congrArg some (by kernel_rfl))
  f319 := Tryd.func58.trans (congrArg some (by kernel_rfl))
  f320 := Tryd.func59.trans (congrArg some (by kernel_rfl))
  f337 := Tryd.func63.trans (congrArg some (by kernel_rfl))
  f338 := Tryd.func64.trans (congrArg some (by kernel_rfl))
  t0 := Tryd.underlying0
  a0 := Tryd.isAgg0
  z0 := Tryd.sizeOf0
  v0 := Tryd.zeroValue0
  t2 := Tryd.underlying2
  a2 := Tryd.isAgg2
  z2 := Tryd.sizeOf2
  v2 := Tryd.zeroValue2
  t3 := Tryd.underlying3
  a3 := Tryd.isAgg3
  z3 := Tryd.sizeOf3
  v3 := Tryd.zeroValue3
  t4 := Tryd.underlying4
  a4 := Tryd.isAgg4
  z4 := Tryd.sizeOf4
  v4 := Tryd.zeroValue4
  t5 := Tryd.underlying5
  a5 := Tryd.isAgg5
  z5 := Tryd.sizeOf5
  v5 := Tryd.zeroValue5
  t9 := Tryd.underlying9
  a9 := Tryd.isAgg9
  z9 := Tryd.sizeOf9
  v9 := Tryd.zeroValue9
  t20 := Tryd.underlying20
  a20 := Tryd.isAgg20
  z20 := Tryd.sizeOf20
  v20 := Tryd.zeroValue20
  t37 := Tryd.underlying51
  a37 := Tryd.isAgg51
  z37 := Tryd.sizeOf51
  v37 := Tryd.zeroValue51
  t46 := Tryd.underlying85
  a46 := Tryd.isAgg85
  z46 := Tryd.sizeOf85
  v46 := Tryd.zeroValue85
  t51 := Tryd.underlying82
  a51 := Tryd.isAgg82
  z51 := Tryd.sizeOf82
  v51 := Tryd.zeroValue82
  t53 := Tryd.underlying75
  a53 := Tryd.isAgg75
  z53 := Tryd.sizeOf75
  v53 := Tryd.zeroValue75
  t171 := Tryd.underlying74
  a171 := Tryd.isAgg74
  z171 := Tryd.sizeOf74
  v171 := Tryd.zeroValue74
  t173 := Tryd.underlying78
  a173 := Tryd.isAgg78
  z173 := Tryd.sizeOf78
  v173 := Tryd.zeroValue78
  t212 := Tryd.underlying90
  a212 := Tryd.isAgg90
  z212 := Tryd.sizeOf90
  v212 := Tryd.zeroValue90
  t213 := Tryd.underlying91
  a213 := Tryd.isAgg91
  z213 := Tryd.sizeOf91
  t232 := Tryd.underlying101
  a232 := Tryd.isAgg101
  z232 := Tryd.sizeOf101
  v232 := Tryd.zeroValue101
  t233 := Tryd.underlying102
  a233 := Tryd.isAgg102
  z233 := Tryd.sizeOf102
  v233 := Tryd.zeroValue102
  g17 := by kernel_rfl
  g18 := by kernel_rfl
  g19 := by kernel_rfl }
open Go.RowKit Go.Sort Go.Lib in
/-- THE ROAD WITHOUT THE TABLE: 0 <= i < 100. (LAID: no walk: one application.) -/
theorem Tryd.internal_strconv_Itoa_small (i : Nat) (hi : i < 100) (w : World) :
    Calls Tryd.prog 21 #[.int .i64 i] w fun e w' => e = .returned (.string ⟨(Lib.decDigits i).toArray⟩) ∧ w' = w := Any.internal_strconv_Itoa_small Tryd.lays243 i hi w
def Tryd.laysM171_ren : Go.Shelf.Ren := ⟨fun | 171 => 12 | 243 => 21 | 246 => 34 | 283 => 45 | 284 => 46 | 285 => 47 | 286 => 48 | 129 => 56 | 317 => 55 | 318 => 57 | 319 => 58 | 320 => 59 | 337 => 63 | 338 => 64 | n => n, fun | 3 => 3 | 9 => 9 | 2 => 2 | 4 => 4 | 171 => 74 | 0 => 0 | 53 => 75 | 37 => 51 | 5 => 5 | 173 => 78 | 212 => 90 | 51 => 82 | 20 => 20 | 213 => 91 | 46 => 85 | 232 => 101 | 233 => 102 | n => n, fun | 17 => 3 | 18 => 6 | 19 => 7 | n => n⟩
theorem Tryd.laysM171 : Go.Proofs.LaysM.n171 Tryd.prog Tryd.laysM171_ren := {
  mixed := by kernel_rfl
  f129 := Tryd.func56.trans (congrArg some (by kernel_rfl))
  f171 := Tryd.func12.trans (congrArg some (by kernel_rfl))
  f243 := Tryd.func21.trans (congrArg some (by kernel_rfl))
  f246 := Tryd.func34.trans (congrArg some (by kernel_rfl))
  f283 := Tryd.func45.trans (congrArg some (by kernel_rfl))
  f284 := Tryd.func46.trans (congrArg some (by kernel_rfl))
  f285 := Tryd.func47.trans (congrArg some (by kernel_rfl))
  f286 := Tryd.func48.trans (congrArg some (by kernel_rfl))
  f317 := Tryd.func55.trans (congrArg some (by kernel_rfl))
  f318 := Tryd.func57.trans (congrArg some (by kernel_rfl))
  f319 := Tryd.func58.trans (congrArg some (by kernel_rfl))
  f320 := Tryd.func59.trans (congrArg some (by kernel_rfl))
  f337 := Tryd.func63.trans (congrArg some (by kernel_rfl))
  f338 := Tryd.func64.trans (congrArg some (by kernel_rfl))
  t0 := Tryd.underlying0
  a0 := Tryd.isAgg0
  z0 := Tryd.sizeOf0
  v0 := Tryd.zeroValue0
  t2 := Tryd.underlying2
  a2 := Tryd.isAgg2
  z2 := Tryd.sizeOf2
  v2 := Tryd.zeroValue2
  t3 := Tryd.underlying3
  a3 := Tryd.isAgg3
  z3 := Tryd.sizeOf3
  v3 := Tryd.zeroValue3
  t4 := Tryd.underlying4
  a4 := Tryd.isAgg4
  z4 := Tryd.sizeOf4
  v4 := Tryd.zeroValue4
  t5 := Tryd.underlying5
  a5 := Tryd.isAgg5
  z5 := Tryd.sizeOf5
  v5 := Tryd.zeroValue5
  t9 := Tryd.underlying9
  a9 := Tryd.isAgg9
  z9 := Tryd.sizeOf9
  v9 := Tryd.zeroValue9
  t20 := Tryd.underlying20
  a20 := Tryd.isAgg20
  z20 := Tryd.sizeOf20
  v20 := Tryd.zeroValue20
  t37 := Tryd.underlying51
  a37 := Tryd.isAgg51
  z37 := Tryd.sizeOf51
  v37 := Tryd.zeroValue51
  t46 := Tryd.underlying85
  a46 := Tryd.isAgg85
  z46 := Tryd.sizeOf85
  v46 := Tryd.zeroValue85
  t51 := Tryd.underlying82
  a51 := Tryd.isAgg82
  z51 := Tryd.sizeOf82
  v51 := Tryd.zeroValue82
  t53 := Tryd.underlying75
  a53 := Tryd.isAgg75
  z53 := Tryd.sizeOf75
  v53 := Tryd.zeroValue75
  t171 := Tryd.underlying74
  a171 := Tryd.isAgg74
  z171 := Tryd.sizeOf74
  v171 := Tryd.zeroValue74
  t173 := Tryd.underlying78
  a173 := Tryd.isAgg78
  z173 := Tryd.sizeOf78
  v173 := Tryd.zeroValue78
  t212 := Tryd.underlying90
  a212 := Tryd.isAgg90
  z212 := Tryd.sizeOf90
  v212 := Tryd.zeroValue90
  t213 := Tryd.underlying91
  a213 := Tryd.isAgg91
  z213 := Tryd.sizeOf91
  t232 := Tryd.underlying101
  a232 := Tryd.isAgg101
  z232 := Tryd.sizeOf101
  v232 := Tryd.zeroValue101
  t233 := Tryd.underlying102
  a233 := Tryd.isAgg102
  z233 := Tryd.sizeOf102
  v233 := Tryd.zeroValue102
  g17 := by kernel_rfl
  g18 := by kernel_rfl
  g19 := by kernel_rfl
  i0 := by kernel_rfl
  i2 := by kernel_rfl
  i3 := by kernel_rfl
  i4 := by kernel_rfl
  i5 := by kernel_rfl
  i9 := by kernel_rfl
  i20 := by kernel_rfl
  i37 := by kernel_rfl
  i46 := by kernel_rfl
  i51 := by kernel_rfl
  i53 := by kernel_rfl
  i171 := by kernel_rfl
  i173 := by kernel_rfl
  i212 := by kernel_rfl
  i232 := by kernel_rfl
  i233 := by kernel_rfl
  m17 := by kernel_rfl
  m18 := by kernel_rfl
  m19 := by kernel_rfl }
open Go.RowKit Go.Sort Go.Lib in
/-- strconv.Itoa: "Itoa is equivalent to FormatInt(int64(i), 10).": i's DECIMAL NUMERAL ('Lib.itoa': a '-' where i is negative, then the digits), FOR EVERY int. The world behind the call: the world before it, new blocks behind the heap (the library's 'var a [24]byte'), draws. (LAID: no walk: one application.) -/
theorem Tryd.strconv_Itoa (n : Int) (h0 : -9223372036854775808 ≤ n) (h1 : n ≤ 9223372036854775807) (w : World) (htab : Lib.TabIs Tryd.prog w "internal/strconv.uint64pow10" .u64 Lib.pow10Tab) :
    Calls Tryd.prog 12 #[.int .i64 n] w fun e w' => e = .returned (.string ⟨(Lib.itoa n).toArray⟩) ∧ ∃ k os, w' = grow (w.drewN k) os := Any.strconv_Itoa Tryd.laysM171 n h0 h1 w htab
def Tryd.lays171_ren : Go.Shelf.Ren := ⟨fun | 171 => 12 | 243 => 21 | 246 => 34 | 283 => 45 | 284 => 46 | 285 => 47 | 286 => 48 | 129 => 56 | 317 => 55 | 318 => 57 | 319 => 58 | 320 => 59 | 337 => 63 | 338 => 64 | n => n, fun | 3 => 3 | 9 => 9 | 2 => 2 | 4 => 4 | 171 => 74 | 0 => 0 | 53 => 75 | 37 => 51 | 5 => 5 | 173 => 78 | 212 => 90 | 51 => 82 | 20 => 20 | 213 => 91 | 46 => 85 | 232 => 101 | 233 => 102 | n => n, fun | 17 => 3 | 18 => 6 | 19 => 7 | n => n⟩
theorem Tryd.lays171 : Go.Proofs.Lays.n171 Tryd.prog Tryd.lays171_ren := {
  mixed := by kernel_rfl
  f129 := Tryd.func56.trans (congrArg some (by kernel_rfl))
  f171 := Tryd.func12.trans (congrArg some (by kernel_rfl))
  f243 := Tryd.func21.trans (congrArg some (by kernel_rfl))
  f246 := Tryd.func34.trans (congrArg some (by kernel_rfl))
  f283 := Tryd.func45.trans (congrArg some (by kernel_rfl))
  f284 := Tryd.func46.trans (congrArg some (by kernel_rfl))
  f285 := Tryd.func47.trans (congrArg some (by kernel_rfl))
  f286 := Tryd.func48.trans (congrArg some (by kernel_rfl))
  f317 := Tryd.func55.trans (congrArg some (by kernel_rfl))
  f318 := Tryd.func57.trans (congrArg some (by kernel_rfl))
  f319 := Tryd.func58.trans (congrArg some (by kernel_rfl))
  f320 := Tryd.func59.trans (congrArg some (by kernel_rfl))
  f337 := Tryd.func63.trans (congrArg some (by kernel_rfl))
  f338 := Tryd.func64.trans (congrArg some (by kernel_rfl))
  t0 := Tryd.underlying0
  a0 := Tryd.isAgg0
  z0 := Tryd.sizeOf0
  v0 := Tryd.zeroValue0
  t2 := Tryd.underlying2
  a2 := Tryd.isAgg2
  z2 := Tryd.sizeOf2
  v2 := Tryd.zeroValue2
  t3 := Tryd.underlying3
  a3 := Tryd.isAgg3
  z3 := Tryd.sizeOf3
  v3 := Tryd.zeroValue3
  t4 := Tryd.underlying4
  a4 := Tryd.isAgg4
  z4 := Tryd.sizeOf4
  v4 := Tryd.zeroValue4
  t5 := Tryd.underlying5
  a5 := Tryd.isAgg5
  z5 := Tryd.sizeOf5
  v5 := Tryd.zeroValue5
  t9 := Tryd.underlying9
  a9 := Tryd.isAgg9
  z9 := Tryd.sizeOf9
  v9 := Tryd.zeroValue9
  t20 := Tryd.underlying20
  a20 := Tryd.isAgg20
  z20 := Tryd.sizeOf20
  v20 := Tryd.zeroValue20
  t37 := Tryd.underlying51
  a37 := Tryd.isAgg51
  z37 := Tryd.sizeOf51
  v37 := Tryd.zeroValue51
  t46 := Tryd.underlying85
  a46 := Tryd.isAgg85
  z46 := Tryd.sizeOf85
  v46 := Tryd.zeroValue85
  t51 := Tryd.underlying82
  a51 := Tryd.isAgg82
  z51 := Tryd.sizeOf82
  v51 := Tryd.zeroValue82
  t53 := Tryd.underlying75
  a53 := Tryd.isAgg75
  z53 := Tryd.sizeOf75
  v53 := Tryd.zeroValue75
  t171 := Tryd.underlying74
  a171 := Tryd.isAgg74
  z171 := Tryd.sizeOf74
  v171 := Tryd.zeroValue74
  t173 := Tryd.underlying78
  a173 := Tryd.isAgg78
  z173 := Tryd.sizeOf78
  v173 := Tryd.zeroValue78
  t212 := Tryd.underlying90
  a212 := Tryd.isAgg90
  z212 := Tryd.sizeOf90
  v212 := Tryd.zeroValue90
  t213 := Tryd.underlying91
  a213 := Tryd.isAgg91
  z213 := Tryd.sizeOf91
  t232 := Tryd.underlying101
  a232 := Tryd.isAgg101
  z232 := Tryd.sizeOf101
  v232 := Tryd.zeroValue101
  t233 := Tryd.underlying102
  a233 := Tryd.isAgg102
  z233 := Tryd.sizeOf102
  v233 := Tryd.zeroValue102
  g17 := by kernel_rfl
  g18 := by kernel_rfl
  g19 := by kernel_rfl }
open Go.RowKit Go.Sort Go.Lib in
/-- THE ROAD WITHOUT THE TABLE: 0 <= i < 100: NO PREMISE ON THE WORLD, AND THE WORLD IS AS IT WAS: a row that keeps its argument in that range need list no table ('laid = []'). (LAID: no walk: one application.) -/
theorem Tryd.strconv_Itoa_small (i : Nat) (hi : i < 100) (w : World) :
    Calls Tryd.prog 12 #[.int .i64 i] w fun e w' => e = .returned (.string ⟨(Lib.decDigits i).toArray⟩) ∧ w' = w := Any.strconv_Itoa_small Tryd.lays171 i hi w
def Tryd.lays315_ren : Go.Shelf.Ren := ⟨fun | 315 => 44 | n => n, fun | 9 => 9 | 40 => 57 | 4 => 4 | 3 => 3 | 0 => 0 | 21 => 21 | n => n, fun | n => n⟩
theorem Tryd.lays315 : Go.Proofs.Lays.n315 Tryd.prog Tryd.lays315_ren := {
  mixed := by kernel_rfl
  f315 := Tryd.func44.trans (congrArg some (by kernel_rfl))
  t0 := Tryd.underlying0
  a0 := Tryd.isAgg0
  z0 := Tryd.sizeOf0
  v0 := Tryd.zeroValue0
  t3 := Tryd.underlying3
  a3 := Tryd.isAgg3
  z3 := Tryd.sizeOf3
  v3 := Tryd.zeroValue3
  t4 := Tryd.underlying4
  a4 := Tryd.isAgg4
  z4 := Tryd.sizeOf4
  v4 := Tryd.zeroValue4
  t9 := Tryd.underlying9
  a9 := Tryd.isAgg9
  z9 := Tryd.sizeOf9
  v9 := Tryd.zeroValue9
  t21 := Tryd.underlying21
  a21 := Tryd.isAgg21
  z21 := Tryd.sizeOf21
  v21 := Tryd.zeroValue21
  t40 := Tryd.underlying57
  a40 := Tryd.isAgg57
  z40 := Tryd.sizeOf57
  v40 := Tryd.zeroValue57 }
open Go.RowKit Go.Lib in
theorem Tryd.strings_indexFunc (g : Nat) (lb : Array Value) (eg : ∀ args w, (callFunc g args).run Tryd.prog w = .ok (.enter g args) w) (p : Nat → Bool) (truth : Bool) (s : ByteArray) (w : World) (hp : PredAt Tryd.prog g lb encR p w) :
    Calls Tryd.prog 44 #[.string s, .func (.func g) #[] lb, .bool truth] w fun e w' => e = .returned (.int .i64 (Lib.idxFunc p truth s)) ∧ Below w.heap.size w w' := Any.strings_indexFunc Tryd.lays315 g lb eg p truth s w hp
def Tryd.lays273_ren : Go.Shelf.Ren := ⟨fun | 273 => 42 | 271 => 53 | 120 => 62 | 197 => 43 | 260 => 54 | n => n, fun | 9 => 9 | 40 => 57 | 4 => 4 | 3 => 3 | 105 => 72 | 21 => 21 | 5 => 5 | 119 => 96 | 0 => 0 | 46 => 85 | 139 => 99 | 138 => 98 | n => n, fun | 3 => 4 | 4 => 5 | n => n⟩
theorem Tryd.lays273 : Go.Proofs.Lays.n273 Tryd.prog Tryd.lays273_ren := {
  mixed := by kernel_rfl
  f120 := Tryd.func62.trans (congrArg some (by kernel_rfl))
  f197 := Tryd.func43.trans (congrArg some (by kernel_rfl))
  f260 := Tryd.func54.trans (congrArg some (by kernel_rfl))
  f271 := Tryd.func53.trans (congrArg some (by kernel_rfl))
  f273 := Tryd.func42.trans (congrArg some (by kernel_rfl))
  t0 := Tryd.underlying0
  a0 := Tryd.isAgg0
  z0 := Tryd.sizeOf0
  v0 := Tryd.zeroValue0
  t3 := Tryd.underlying3
  a3 := Tryd.isAgg3
  z3 := Tryd.sizeOf3
  v3 := Tryd.zeroValue3
  t4 := Tryd.underlying4
  a4 := Tryd.isAgg4
  z4 := Tryd.sizeOf4
  v4 := Tryd.zeroValue4
  t5 := Tryd.underlying5
  a5 := Tryd.isAgg5
  z5 := Tryd.sizeOf5
  v5 := Tryd.zeroValue5
  t9 := Tryd.underlying9
  a9 := Tryd.isAgg9
  z9 := Tryd.sizeOf9
  v9 := Tryd.zeroValue9
  t21 := Tryd.underlying21
  a21 := Tryd.isAgg21
  z21 := Tryd.sizeOf21
  v21 := Tryd.zeroValue21
  t40 := Tryd.underlying57
  a40 := Tryd.isAgg57
  z40 := Tryd.sizeOf57
  v40 := Tryd.zeroValue57
  t46 := Tryd.underlying85
  a46 := Tryd.isAgg85
  z46 := Tryd.sizeOf85
  v46 := Tryd.zeroValue85
  t105 := Tryd.underlying72
  a105 := Tryd.isAgg72
  z105 := Tryd.sizeOf72
  v105 := Tryd.zeroValue72
  t119 := Tryd.underlying96
  a119 := Tryd.isAgg96
  z119 := Tryd.sizeOf96
  t138 := Tryd.underlying98
  a138 := Tryd.isAgg98
  z138 := Tryd.sizeOf98
  v138 := Tryd.zeroValue98
  t139 := Tryd.underlying99
  a139 := Tryd.isAgg99
  z139 := Tryd.sizeOf99
  v139 := Tryd.zeroValue99
  g3 := by kernel_rfl
  g4 := by kernel_rfl }
open Go.RowKit Go.Lib in
theorem Tryd.strings_lastIndexFunc (g : Nat) (lb : Array Value) (eg : ∀ args w, (callFunc g args).run Tryd.prog w = .ok (.enter g args) w) (p : Nat → Bool) (truth : Bool) (s : ByteArray) (w : World) (hs : s.size ≤ 9223372036854775807) (hT : Lib.Utf8Tabs 4 5 w) (hp : PredAt Tryd.prog g lb encR p w) :
    Calls Tryd.prog 42 #[.string s, .func (.func g) #[] lb, .bool truth] w fun e w' => e = .returned (.int .i64 (Lib.lastIdxFunc p truth s)) ∧ Below w.heap.size w w' := Any.strings_lastIndexFunc Tryd.lays273 g lb eg p truth s w hs hT hp
def Tryd.lays272_ren : Go.Shelf.Ren := ⟨fun | 272 => 30 | 315 => 44 | n => n, fun | 9 => 9 | 40 => 57 | 4 => 4 | 3 => 3 | 0 => 0 | 21 => 21 | n => n, fun | n => n⟩
theorem Tryd.lays272 : Go.Proofs.Lays.n272 Tryd.prog Tryd.lays272_ren := {
  mixed := by kernel_rfl
  f272 := Tryd.func30.trans (congrArg some (by kernel_rfl))
  f315 := Tryd.func44.trans (congrArg some (by kernel_rfl))
  t0 := Tryd.underlying0
  a0 := Tryd.isAgg0
  z0 := Tryd.sizeOf0
  v0 := Tryd.zeroValue0
  t3 := Tryd.underlying3
  a3 := Tryd.isAgg3
  z3 := Tryd.sizeOf3
  v3 := Tryd.zeroValue3
  t4 := Tryd.underlying4
  a4 := Tryd.isAgg4
  z4 := Tryd.sizeOf4
  v4 := Tryd.zeroValue4
  t9 := Tryd.underlying9
  a9 := Tryd.isAgg9
  z9 := Tryd.sizeOf9
  v9 := Tryd.zeroValue9
  t21 := Tryd.underlying21
  a21 := Tryd.isAgg21
  z21 := Tryd.sizeOf21
  v21 := Tryd.zeroValue21
  t40 := Tryd.underlying57
  a40 := Tryd.isAgg57
  z40 := Tryd.sizeOf57
  v40 := Tryd.zeroValue57 }
open Go.RowKit Go.Lib in
theorem Tryd.strings_TrimLeftFunc (g : Nat) (lb : Array Value) (eg : ∀ args w, (callFunc g args).run Tryd.prog w = .ok (.enter g args) w) (p : Nat → Bool) (s : ByteArray) (w : World) (hp : PredAt Tryd.prog g lb encR p w) :
    Calls Tryd.prog 30 #[.string s, .func (.func g) #[] lb] w fun e w' => e = .returned (.string (Lib.trimLeftF p s)) ∧ Below w.heap.size w w' := Any.strings_TrimLeftFunc Tryd.lays272 g lb eg p s w hp
def Tryd.lays238_ren : Go.Shelf.Ren := ⟨fun | 238 => 29 | 273 => 42 | 197 => 43 | 271 => 53 | 260 => 54 | 120 => 62 | n => n, fun | 9 => 9 | 40 => 57 | 4 => 4 | 3 => 3 | 105 => 72 | 21 => 21 | 5 => 5 | 119 => 96 | 0 => 0 | 46 => 85 | 139 => 99 | 138 => 98 | n => n, fun | 3 => 4 | 4 => 5 | n => n⟩
theorem Tryd.lays238 : Go.Proofs.Lays.n238 Tryd.prog Tryd.lays238_ren := {
  mixed := by kernel_rfl
  f120 := Tryd.func62.trans (congrArg some (by kernel_rfl))
  f197 := Tryd.func43.trans (congrArg some (by kernel_rfl))
  f238 := Tryd.func29.trans (congrArg some (by kernel_rfl))
  f260 := Tryd.func54.trans (congrArg some (by kernel_rfl))
  f271 := Tryd.func53.trans (congrArg some (by kernel_rfl))
  f273 := Tryd.func42.trans (congrArg some (by kernel_rfl))
  t0 := Tryd.underlying0
  a0 := Tryd.isAgg0
  z0 := Tryd.sizeOf0
  v0 := Tryd.zeroValue0
  t3 := Tryd.underlying3
  a3 := Tryd.isAgg3
  z3 := Tryd.sizeOf3
  v3 := Tryd.zeroValue3
  t4 := Tryd.underlying4
  a4 := Tryd.isAgg4
  z4 := Tryd.sizeOf4
  v4 := Tryd.zeroValue4
  t5 := Tryd.underlying5
  a5 := Tryd.isAgg5
  z5 := Tryd.sizeOf5
  v5 := Tryd.zeroValue5
  t9 := Tryd.underlying9
  a9 := Tryd.isAgg9
  z9 := Tryd.sizeOf9
  v9 := Tryd.zeroValue9
  t21 := Tryd.underlying21
  a21 := Tryd.isAgg21
  z21 := Tryd.sizeOf21
  v21 := Tryd.zeroValue21
  t40 := Tryd.underlying57
  a40 := Tryd.isAgg57
  z40 := Tryd.sizeOf57
  v40 := Tryd.zeroValue57
  t46 := Tryd.underlying85
  a46 := Tryd.isAgg85
  z46 := Tryd.sizeOf85
  v46 := Tryd.zeroValue85
  t105 := Tryd.underlying72
  a105 := Tryd.isAgg72
  z105 := Tryd.sizeOf72
  v105 := Tryd.zeroValue72
  t119 := Tryd.underlying96
  a119 := Tryd.isAgg96
  z119 := Tryd.sizeOf96
  t138 := Tryd.underlying98
  a138 := Tryd.isAgg98
  z138 := Tryd.sizeOf98
  v138 := Tryd.zeroValue98
  t139 := Tryd.underlying99
  a139 := Tryd.isAgg99
  z139 := Tryd.sizeOf99
  v139 := Tryd.zeroValue99
  g3 := by kernel_rfl
  g4 := by kernel_rfl }
open Go.RowKit Go.Lib in
theorem Tryd.strings_TrimRightFunc (g : Nat) (lb : Array Value) (eg : ∀ args w, (callFunc g args).run Tryd.prog w = .ok (.enter g args) w) (p : Nat → Bool) (s : ByteArray) (w : World) (hs : s.size ≤ 9223372036854775807) (hT : Lib.Utf8Tabs 4 5 w) (hp : PredAt Tryd.prog g lb encR p w) :
    Calls Tryd.prog 29 #[.string s, .func (.func g) #[] lb] w fun e w' => e = .returned (.string (Lib.trimRightF p s)) ∧ Below w.heap.size w w' := Any.strings_TrimRightFunc Tryd.lays238 g lb eg p s w hs hT hp
def Tryd.lays260_ren : Go.Shelf.Ren := ⟨fun | 260 => 54 | n => n, fun | 9 => 9 | 21 => 21 | 3 => 3 | 4 => 4 | 5 => 5 | 119 => 96 | 0 => 0 | 46 => 85 | 139 => 99 | 138 => 98 | n => n, fun | 3 => 4 | 4 => 5 | n => n⟩
theorem Tryd.lays260 : Go.Proofs.Lays.n260 Tryd.prog Tryd.lays260_ren := {
  mixed := by kernel_rfl
  f260 := Tryd.func54.trans (congrArg some (by kernel_rfl))
  t0 := Tryd.underlying0
  a0 := Tryd.isAgg0
  z0 := Tryd.sizeOf0
  v0 := Tryd.zeroValue0
  t3 := Tryd.underlying3
  a3 := Tryd.isAgg3
  z3 := Tryd.sizeOf3
  v3 := Tryd.zeroValue3
  t4 := Tryd.underlying4
  a4 := Tryd.isAgg4
  z4 := Tryd.sizeOf4
  v4 := Tryd.zeroValue4
  t5 := Tryd.underlying5
  a5 := Tryd.isAgg5
  z5 := Tryd.sizeOf5
  v5 := Tryd.zeroValue5
  t9 := Tryd.underlying9
  a9 := Tryd.isAgg9
  z9 := Tryd.sizeOf9
  v9 := Tryd.zeroValue9
  t21 := Tryd.underlying21
  a21 := Tryd.isAgg21
  z21 := Tryd.sizeOf21
  v21 := Tryd.zeroValue21
  t46 := Tryd.underlying85
  a46 := Tryd.isAgg85
  z46 := Tryd.sizeOf85
  v46 := Tryd.zeroValue85
  t119 := Tryd.underlying96
  a119 := Tryd.isAgg96
  z119 := Tryd.sizeOf96
  t138 := Tryd.underlying98
  a138 := Tryd.isAgg98
  z138 := Tryd.sizeOf98
  v138 := Tryd.zeroValue98
  t139 := Tryd.underlying99
  a139 := Tryd.isAgg99
  z139 := Tryd.sizeOf99
  v139 := Tryd.zeroValue99
  g3 := by kernel_rfl
  g4 := by kernel_rfl }
open Go.RowKit Go.Lib in
theorem Tryd.utf8_decodeRuneInStringSlow (s : ByteArray) (w : World) (hT : Lib.Utf8Tabs 4 5 w) :
    Calls Tryd.prog 54 #[.string s] w fun e w' => e = .returned (.tuple #[.int .i32 (Lib.decodeGo s).1, .int .i64 (Lib.decodeGo s).2]) ∧ Below w.heap.size w w' := Any.utf8_decodeRuneInStringSlow Tryd.lays260 s w hT
def Tryd.lays197_ren : Go.Shelf.Ren := ⟨fun | 197 => 43 | 260 => 54 | n => n, fun | 9 => 9 | 21 => 21 | 3 => 3 | 4 => 4 | 5 => 5 | 105 => 72 | 119 => 96 | 0 => 0 | 46 => 85 | 139 => 99 | 138 => 98 | n => n, fun | 3 => 4 | 4 => 5 | n => n⟩
theorem Tryd.lays197 : Go.Proofs.Lays.n197 Tryd.prog Tryd.lays197_ren := {
  mixed := by kernel_rfl
  f197 := Tryd.func43.trans (congrArg some (by kernel_rfl))
  f260 := Tryd.func54.trans (congrArg some (by kernel_rfl))
  t0 := Tryd.underlying0
  a0 := Tryd.isAgg0
  z0 := Tryd.sizeOf0
  v0 := Tryd.zeroValue0
  t3 := Tryd.underlying3
  a3 := Tryd.isAgg3
  z3 := Tryd.sizeOf3
  v3 := Tryd.zeroValue3
  t4 := Tryd.underlying4
  a4 := Tryd.isAgg4
  z4 := Tryd.sizeOf4
  v4 := Tryd.zeroValue4
  t5 := Tryd.underlying5
  a5 := Tryd.isAgg5
  z5 := Tryd.sizeOf5
  v5 := Tryd.zeroValue5
  t9 := Tryd.underlying9
  a9 := Tryd.isAgg9
  z9 := Tryd.sizeOf9
  v9 := Tryd.zeroValue9
  t21 := Tryd.underlying21
  a21 := Tryd.isAgg21
  z21 := Tryd.sizeOf21
  v21 := Tryd.zeroValue21
  t46 := Tryd.underlying85
  a46 := Tryd.isAgg85
  z46 := Tryd.sizeOf85
  v46 := Tryd.zeroValue85
  t105 := Tryd.underlying72
  a105 := Tryd.isAgg72
  z105 := Tryd.sizeOf72
  v105 := Tryd.zeroValue72
  t119 := Tryd.underlying96
  a119 := Tryd.isAgg96
  z119 := Tryd.sizeOf96
  t138 := Tryd.underlying98
  a138 := Tryd.isAgg98
  z138 := Tryd.sizeOf98
  v138 := Tryd.zeroValue98
  t139 := Tryd.underlying99
  a139 := Tryd.isAgg99
  z139 := Tryd.sizeOf99
  v139 := Tryd.zeroValue99
  g3 := by kernel_rfl
  g4 := by kernel_rfl }
open Go.RowKit Go.Lib in
/-- **unicode/utf8.DecodeRuneInString AT EVERY STRING.** (LAID: no walk: one application.) -/
theorem Tryd.utf8_DecodeRuneInString (s : ByteArray) (w : World) (hT : Lib.Utf8Tabs 4 5 w) :
    Calls Tryd.prog 43 #[.string s] w fun e w' => e = .returned (.tuple #[.int .i32 (Lib.decodeGo s).1, .int .i64 (Lib.decodeGo s).2]) ∧ Below w.heap.size w w' := Any.utf8_DecodeRuneInString Tryd.lays197 s w hT
def Tryd.lays271_ren : Go.Shelf.Ren := ⟨fun | 271 => 53 | 120 => 62 | 197 => 43 | 260 => 54 | n => n, fun | 9 => 9 | 21 => 21 | 3 => 3 | 4 => 4 | 5 => 5 | 105 => 72 | 119 => 96 | 0 => 0 | 46 => 85 | 139 => 99 | 138 => 98 | n => n, fun | 3 => 4 | 4 => 5 | n => n⟩
theorem Tryd.lays271 : Go.Proofs.Lays.n271 Tryd.prog Tryd.lays271_ren := {
  mixed := by kernel_rfl
  f120 := Tryd.func62.trans (congrArg some (by kernel_rfl))
  f197 := Tryd.func43.trans (congrArg some (by kernel_rfl))
  f260 := Tryd.func54.trans (congrArg some (by kernel_rfl))
  f271 := Tryd.func53.trans (congrArg some (by kernel_rfl))
  t0 := Tryd.underlying0
  a0 := Tryd.isAgg0
  z0 := Tryd.sizeOf0
  v0 := Tryd.zeroValue0
  t3 := Tryd.underlying3
  a3 := Tryd.isAgg3
  z3 := Tryd.sizeOf3
  v3 := Tryd.zeroValue3
  t4 := Tryd.underlying4
  a4 := Tryd.isAgg4
  z4 := Tryd.sizeOf4
  v4 := Tryd.zeroValue4
  t5 := Tryd.underlying5
  a5 := Tryd.isAgg5
  z5 := Tryd.sizeOf5
  v5 := Tryd.zeroValue5
  t9 := Tryd.underlying9
  a9 := Tryd.isAgg9
  z9 := Tryd.sizeOf9
  v9 := Tryd.zeroValue9
  t21 := Tryd.underlying21
  a21 := Tryd.isAgg21
  z21 := Tryd.sizeOf21
  v21 := Tryd.zeroValue21
  t46 := Tryd.underlying85
  a46 := Tryd.isAgg85
  z46 := Tryd.sizeOf85
  v46 := Tryd.zeroValue85
  t105 := Tryd.underlying72
  a105 := Tryd.isAgg72
  z105 := Tryd.sizeOf72
  v105 := Tryd.zeroValue72
  t119 := Tryd.underlying96
  a119 := Tryd.isAgg96
  z119 := Tryd.sizeOf96
  t138 := Tryd.underlying98
  a138 := Tryd.isAgg98
  z138 := Tryd.sizeOf98
  v138 := Tryd.zeroValue98
  t139 := Tryd.underlying99
  a139 := Tryd.isAgg99
  z139 := Tryd.sizeOf99
  v139 := Tryd.zeroValue99
  g3 := by kernel_rfl
  g4 := by kernel_rfl }
open Go.RowKit Go.Lib in
/-- **unicode/utf8.DecodeLastRuneInString AT EVERY STRING.** (LAID: no walk: one application.) -/
theorem Tryd.utf8_DecodeLastRuneInString (s : ByteArray) (w : World) (hs : s.size ≤ 9223372036854775807) (hT : Lib.Utf8Tabs 4 5 w) :
    Calls Tryd.prog 53 #[.string s] w fun e w' => e = .returned (.tuple #[.int .i32 (Lib.decodeLastL s.data.toList).1, .int .i64 (Lib.decodeLastL s.data.toList).2]) ∧ Below w.heap.size w w' := Any.utf8_DecodeLastRuneInString Tryd.lays271 s w hs hT
end Go.Proofs
