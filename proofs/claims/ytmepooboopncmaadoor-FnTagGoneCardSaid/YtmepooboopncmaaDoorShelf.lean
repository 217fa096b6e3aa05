/-
  DERIVED: THE SHELF's CONTRACTS AT THIS DUMP, IN PLAIN WORDS (tools/lay-plain.mjs out of 'TrydShelf.lean', which tools/lay-shelf.mjs wrote): THE SAME DECLARATIONS UNDER THE SAME NAMES: 'import', 'namespace', 'open', 'def', 'theorem' AND NOTHING ELSE: no command of the shelf's: FOR A HAND-IN. Each laying: the table of numbers ('.._ren') and one theorem, a field a fact of the dump's own or the kernel's comparison; each contract: ONE APPLICATION.
-/
import Derived.Shelf.Strings.Builder1
import Derived.Shelf.Small.Utf8
import Derived.Shelf.Small.Strs
import Derived.Shelf.Strings.BuilderF
import Derived.Shelf.Strings.BuilderK
import Derived.Shelf.Strings.Search1
import Derived.Shelf.Strings.Fold
import Derived.Shelf.Unicode.Decode
import Derived.Shelf.Strings.Runes
import Derived.Shelf.Strings.IndexAny
import Derived.Shelf.Strings.AsciiSet
import Derived.Shelf.Unicode.DecodeSlow
import Derived.Shelf.Unicode.DecodeAny
import Derived.Shelf.Unicode.DecodeLast
import Derived.Shelf.Unicode.CaseLookup
import Derived.Shelf.Unicode.CaseConvert
import Derived.Test.YtmepooboopncmaaDoorProg
namespace Go.Proofs
open Go.Shelf
def Tryd.lays169_ren : Go.Shelf.Ren := ⟨fun | 169 => 22 | n => n, fun | 70 => 30 | 9 => 9 | 0 => 0 | 72 => 32 | 37 => 27 | 127 => 49 | 3 => 3 | 5 => 5 | n => n, fun | n => n⟩
theorem Tryd.lays169 : Go.Proofs.Lays.n169 Tryd.prog Tryd.lays169_ren := {
  mixed := by kernel_rfl
  f169 := Tryd.func22.trans (congrArg some (by kernel_rfl))
  t0 := Tryd.underlying0
  a0 := Tryd.isAgg0
  z0 := Tryd.sizeOf0
  v0 := Tryd.zeroValue0
  t3 := Tryd.underlying3
  a3 := Tryd.isAgg3
  z3 := Tryd.sizeOf3
  v3 := Tryd.zeroValue3
  t9 := Tryd.underlying9
  a9 := Tryd.isAgg9
  z9 := Tryd.sizeOf9
  v9 := Tryd.zeroValue9
  t37 := Tryd.underlying27
  a37 := Tryd.isAgg27
  z37 := Tryd.sizeOf27
  v37 := Tryd.zeroValue27
  t70 := Tryd.underlying30
  a70 := Tryd.isAgg30
  z70 := Tryd.sizeOf30
  v70 := Tryd.zeroValue30
  t72 := Tryd.underlying32
  a72 := Tryd.isAgg32
  z72 := Tryd.sizeOf32
  v72 := Tryd.zeroValue32
  t127 := Tryd.underlying49
  a127 := Tryd.isAgg49
  z127 := Tryd.sizeOf49
  v127 := Tryd.zeroValue49 }
theorem Tryd.Builder_Extra_169 : Builder.Extra Tryd.prog Tryd.lays169_ren := {
  sizeBuilder := by kernel_rfl
  liesBuilder := by kernel_rfl
  t5 := Tryd.underlying5
  a5 := Tryd.isAgg5
  z5 := Tryd.sizeOf5
  v5 := Tryd.zeroValue5
  infoByte := by kernel_rfl
  cellsByte := by kernel_rfl
  sizeByte := by kernel_rfl
  neB5 := by decide }
open Go.RowKit in
/-- (*strings.Builder).String: "String returns the accumulated string.": OF A BUILDER THAT HOLDS AT LEAST ONE BYTE. ✋ THE MODEL FREEZES THOSE BYTES IN THE BUFFER (unsafe.String): a later write INTO them ends the model's run without an answer; a later append BEHIND them goes on. The statement's order of evaluation is drawn: one draw. (LAID: no walk: one application.) -/
theorem Tryd.Builder_String (B b : Nat) (l : List UInt8) (w : World) (h : Lib.IsBuilder 32 5 B b (Lib.byteCells l) w) (h0 : l ≠ []) :
    Calls Tryd.prog 22 #[.pointer (some ⟨b, 0, none⟩)] w fun e w' => e = .returned (.string ⟨l.toArray⟩) ∧ Below B w w' := Any.Builder_String Tryd.lays169 Tryd.Builder_Extra_169 B b l w h h0
open Go.RowKit in
/-- (*strings.Builder).String OF A BUILDER THAT HOLDS NO BYTE: the empty string. (Its buffer is nil, or a row of which it has taken nothing yet; where that row has NO capacity the model lays one new block for unsafe.SliceData's 'some address'.) One draw. (LAID: no walk: one application.) -/
theorem Tryd.Builder_String_empty (B b : Nat) (w : World) (h : Lib.IsBuilder 32 5 B b [] w) (hBw : B ≤ w.heap.size) :
    Calls Tryd.prog 22 #[.pointer (some ⟨b, 0, none⟩)] w fun e w' => e = .returned (.string ⟨#[]⟩) ∧ Below B w w' := Any.Builder_String_empty Tryd.lays169 Tryd.Builder_Extra_169 B b w h hBw
open Go.RowKit in
/-- (*strings.Builder).String: "String returns the accumulated string.": WHATEVER THE BUILDER HOLDS. (LAID: no walk: one application.) -/
theorem Tryd.Builder_String_any (B b : Nat) (l : List UInt8) (w : World) (h : Lib.IsBuilder 32 5 B b (Lib.byteCells l) w) (hBw : B ≤ w.heap.size) :
    Calls Tryd.prog 22 #[.pointer (some ⟨b, 0, none⟩)] w fun e w' => e = .returned (.string ⟨l.toArray⟩) ∧ Below B w w' := Any.Builder_String_any Tryd.lays169 Tryd.Builder_Extra_169 B b l w h hBw
def Tryd.lays119_ren : Go.Shelf.Ren := ⟨fun | 119 => 32 | n => n, fun | 21 => 21 | 4 => 4 | n => n, fun | n => n⟩
theorem Tryd.lays119 : Go.Proofs.Lays.n119 Tryd.prog Tryd.lays119_ren := {
  mixed := by kernel_rfl
  f119 := Tryd.func32.trans (congrArg some (by kernel_rfl))
  t4 := Tryd.underlying4
  a4 := Tryd.isAgg4
  z4 := Tryd.sizeOf4
  v4 := Tryd.zeroValue4
  t21 := Tryd.underlying21
  a21 := Tryd.isAgg21
  z21 := Tryd.sizeOf21
  v21 := Tryd.zeroValue21 }
/-- utf8.ValidRune: "ValidRune reports whether r can be legally encoded as UTF-8. Code points that are out of range or a surrogate half are illegal.": IT RETURNS 'Lib.validRune r'; the world is as it was. (LAID: no walk: one application.) -/
theorem Tryd.utf8_ValidRune (r : Int) (w : World) :
    Calls Tryd.prog 32 #[.int .i32 r] w fun e w' => e = .returned (.bool (Lib.validRune r)) ∧ w' = w := Any.utf8_ValidRune Tryd.lays119 r w
def Tryd.lays120_ren : Go.Shelf.Ren := ⟨fun | 120 => 35 | n => n, fun | 5 => 5 | 4 => 4 | n => n, fun | n => n⟩
theorem Tryd.lays120 : Go.Proofs.Lays.n120 Tryd.prog Tryd.lays120_ren := {
  mixed := by kernel_rfl
  f120 := Tryd.func35.trans (congrArg some (by kernel_rfl))
  t4 := Tryd.underlying4
  a4 := Tryd.isAgg4
  z4 := Tryd.sizeOf4
  v4 := Tryd.zeroValue4
  t5 := Tryd.underlying5
  a5 := Tryd.isAgg5
  z5 := Tryd.sizeOf5
  v5 := Tryd.zeroValue5 }
/-- utf8.RuneStart: "RuneStart reports whether the byte could be the first byte of an encoded, possibly invalid rune. Second and subsequent bytes always have the top two bits set to 10.": IT RETURNS 'Lib.runeStart b'; the world is as it was. ('h0', 'h1': b is a byte: a caller has it of every byte that it was handed.) (LAID: no walk: one application.) -/
theorem Tryd.utf8_RuneStart (b : Int) (w : World) (h0 : 0 ≤ b) (h1 : b < 256) :
    Calls Tryd.prog 35 #[.int .u8 b] w fun e w' => e = .returned (.bool (Lib.runeStart b)) ∧ w' = w := Any.utf8_RuneStart Tryd.lays120 b w h0 h1
def Tryd.lays137_ren : Go.Shelf.Ren := ⟨fun | 137 => 31 | 217 => 40 | 266 => 41 | n => n, fun | 9 => 9 | 5 => 5 | 3 => 3 | n => n, fun | n => n⟩
theorem Tryd.lays137 : Go.Proofs.Lays.n137 Tryd.prog Tryd.lays137_ren := {
  mixed := by kernel_rfl
  f137 := Tryd.func31.trans (congrArg some (by kernel_rfl))
  f217 := Tryd.func40.trans (congrArg some (by kernel_rfl))
  f266 := Tryd.func41.trans (congrArg some (by kernel_rfl))
  t3 := Tryd.underlying3
  a3 := Tryd.isAgg3
  z3 := Tryd.sizeOf3
  v3 := Tryd.zeroValue3
  t5 := Tryd.underlying5
  a5 := Tryd.isAgg5
  z5 := Tryd.sizeOf5
  v5 := Tryd.zeroValue5
  t9 := Tryd.underlying9
  a9 := Tryd.isAgg9
  z9 := Tryd.sizeOf9
  v9 := Tryd.zeroValue9 }
open Go.RowKit in
/-- strings.IndexByte: "IndexByte returns the index of the first instance of c in s, or -1 if c is not present in s.": IT RETURNS 'Lib.indexByte s c'; the world is as it was. (LAID: no walk: one application.) -/
theorem Tryd.strings_IndexByte (s : ByteArray) (c : Int) (w : World) :
    Calls Tryd.prog 31 #[.string s, .int .u8 c] w fun e w' => e = .returned (.int .i64 (Lib.indexByte s.data.toList c.toNat.toUInt8)) ∧ w' = w := Any.strings_IndexByte Tryd.lays137 s c w
open Go.RowKit in
/-- (*strings.Builder).String: "String returns the accumulated string.": OF A BUILDER THAT HOLDS AT LEAST ONE BYTE. ✋ THE MODEL FREEZES THOSE BYTES IN THE BUFFER (unsafe.String): a later write INTO them ends the model's run without an answer; a later append BEHIND them goes on. The statement's order of evaluation is drawn: one draw. THE FORM '_f': IT SAYS BESIDES THAT THE BUILDER IS A BUILDER STILL ('Lib.IsBuilderF', the same bytes): SO IT CAN BE WRITTEN ON: 'b.WriteString(b.String()[:k])'. (LAID: no walk: one application.) -/
theorem Tryd.Builder_String_f (B b : Nat) (l : List UInt8) (w : World) (h : Lib.IsBuilderF 32 5 B b (Lib.byteCells l) w) (h0 : l ≠ []) :
    Calls Tryd.prog 22 #[.pointer (some ⟨b, 0, none⟩)] w fun e w' => e = .returned (.string ⟨l.toArray⟩) ∧ (Lib.IsBuilderF 32 5 B b (Lib.byteCells l) w' ∧ Below B w w') := Any.Builder_String_f Tryd.lays169 Tryd.Builder_Extra_169 B b l w h h0
open Go.RowKit in
/-- (*strings.Builder).String OF A BUILDER THAT HOLDS NO BYTE: the empty string; THE FORM '_f': a builder still. (LAID: no walk: one application.) -/
theorem Tryd.Builder_String_empty_f (B b : Nat) (w : World) (h : Lib.IsBuilderF 32 5 B b [] w) (hBw : B ≤ w.heap.size) :
    Calls Tryd.prog 22 #[.pointer (some ⟨b, 0, none⟩)] w fun e w' => e = .returned (.string ⟨#[]⟩) ∧ (Lib.IsBuilderF 32 5 B b [] w' ∧ Below B w w') := Any.Builder_String_empty_f Tryd.lays169 Tryd.Builder_Extra_169 B b w h hBw
open Go.RowKit in
/-- (*strings.Builder).String: "String returns the accumulated string.": WHATEVER THE BUILDER HOLDS; THE FORM '_f': OF A BUILDER THAT MAY HAVE BEEN READ BEFORE; AND IT IS A BUILDER STILL, holding the same bytes: it can be written on. (LAID: no walk: one application.) -/
theorem Tryd.Builder_String_any_f (B b : Nat) (l : List UInt8) (w : World) (h : Lib.IsBuilderF 32 5 B b (Lib.byteCells l) w) (hBw : B ≤ w.heap.size) :
    Calls Tryd.prog 22 #[.pointer (some ⟨b, 0, none⟩)] w fun e w' => e = .returned (.string ⟨l.toArray⟩) ∧ (Lib.IsBuilderF 32 5 B b (Lib.byteCells l) w' ∧ Below B w w') := Any.Builder_String_any_f Tryd.lays169 Tryd.Builder_Extra_169 B b l w h hBw
open Go.RowKit in
/-- (*strings.Builder).String: "String returns the accumulated string.": OF A BUILDER THAT HOLDS AT LEAST ONE BYTE. ✋ THE MODEL FREEZES THOSE BYTES IN THE BUFFER (unsafe.String): a later write INTO them ends the model's run without an answer; a later append BEHIND them goes on. The statement's order of evaluation is drawn: one draw. THE FORM '_k': OVER 'Lib.IsBuilderF' (a builder that 'String()' may have read), AND WITH THE FRAME THAT REACHES ABOVE THE BUILDER: 'Lib.OthersKept': every block that is not b and is no row of uint8's stands as it stood: the iterator of a range among them. (LAID: no walk: one application.) -/
theorem Tryd.Builder_String_k (B b : Nat) (l : List UInt8) (w : World) (h : Lib.IsBuilderF 32 5 B b (Lib.byteCells l) w) (h0 : l ≠ []) :
    Calls Tryd.prog 22 #[.pointer (some ⟨b, 0, none⟩)] w fun e w' => e = .returned (.string ⟨l.toArray⟩) ∧ (Lib.IsBuilderF 32 5 B b (Lib.byteCells l) w' ∧ Below B w w' ∧ Lib.OthersKept 5 (some b) w w') := Any.Builder_String_k Tryd.lays169 Tryd.Builder_Extra_169 B b l w h h0
open Go.RowKit in
/-- (*strings.Builder).String OF A BUILDER THAT HOLDS NO BYTE: the empty string; THE FORM '_k': OVER 'Lib.IsBuilderF' (a builder that 'String()' may have read), AND WITH THE FRAME THAT REACHES ABOVE THE BUILDER: 'Lib.OthersKept': every block that is not b and is no row of uint8's stands as it stood: the iterator of a range among them. (LAID: no walk: one application.) -/
theorem Tryd.Builder_String_empty_k (B b : Nat) (w : World) (h : Lib.IsBuilderF 32 5 B b [] w) (hBw : B ≤ w.heap.size) :
    Calls Tryd.prog 22 #[.pointer (some ⟨b, 0, none⟩)] w fun e w' => e = .returned (.string ⟨#[]⟩) ∧ (Lib.IsBuilderF 32 5 B b [] w' ∧ Below B w w' ∧ Lib.OthersKept 5 (some b) w w') := Any.Builder_String_empty_k Tryd.lays169 Tryd.Builder_Extra_169 B b w h hBw
open Go.RowKit in
/-- (*strings.Builder).String: "String returns the accumulated string.": WHATEVER THE BUILDER HOLDS; THE FORM '_k': OVER 'Lib.IsBuilderF' (a builder that 'String()' may have read), AND WITH THE FRAME THAT REACHES ABOVE THE BUILDER: 'Lib.OthersKept': every block that is not b and is no row of uint8's stands as it stood: the iterator of a range among them. (LAID: no walk: one application.) -/
theorem Tryd.Builder_String_any_k (B b : Nat) (l : List UInt8) (w : World) (h : Lib.IsBuilderF 32 5 B b (Lib.byteCells l) w) (hBw : B ≤ w.heap.size) :
    Calls Tryd.prog 22 #[.pointer (some ⟨b, 0, none⟩)] w fun e w' => e = .returned (.string ⟨l.toArray⟩) ∧ (Lib.IsBuilderF 32 5 B b (Lib.byteCells l) w' ∧ Below B w w' ∧ Lib.OthersKept 5 (some b) w w') := Any.Builder_String_any_k Tryd.lays169 Tryd.Builder_Extra_169 B b l w h hBw
def Tryd.lays217_ren : Go.Shelf.Ren := ⟨fun | 217 => 40 | 266 => 41 | n => n, fun | 9 => 9 | 5 => 5 | 3 => 3 | n => n, fun | n => n⟩
theorem Tryd.lays217 : Go.Proofs.Lays.n217 Tryd.prog Tryd.lays217_ren := {
  mixed := by kernel_rfl
  f217 := Tryd.func40.trans (congrArg some (by kernel_rfl))
  f266 := Tryd.func41.trans (congrArg some (by kernel_rfl))
  t3 := Tryd.underlying3
  a3 := Tryd.isAgg3
  z3 := Tryd.sizeOf3
  v3 := Tryd.zeroValue3
  t5 := Tryd.underlying5
  a5 := Tryd.isAgg5
  z5 := Tryd.sizeOf5
  v5 := Tryd.zeroValue5
  t9 := Tryd.underlying9
  a9 := Tryd.isAgg9
  z9 := Tryd.sizeOf9
  v9 := Tryd.zeroValue9 }
open Go.RowKit Go.Lib in
/-- internal/stringslite.IndexByte (what strings.IndexByte calls): IT RETURNS 'Lib.indexByte s c'; the world is as it was. (LAID: no walk: one application.) -/
theorem Tryd.stringslite_IndexByte (s : ByteArray) (c : Int) (w : World) :
    Calls Tryd.prog 40 #[.string s, .int .u8 c] w fun e w' => e = .returned (.int .i64 (Lib.indexByte s.data.toList c.toNat.toUInt8)) ∧ w' = w := Any.stringslite_IndexByte Tryd.lays217 s c w
def Tryd.lays224_ren : Go.Shelf.Ren := ⟨fun | 224 => 33 | n => n, fun | 3 => 3 | n => n, fun | n => n⟩
theorem Tryd.lays224 : Go.Proofs.Lays.n224 Tryd.prog Tryd.lays224_ren := {
  mixed := by kernel_rfl
  f224 := Tryd.func33.trans (congrArg some (by kernel_rfl))
  t3 := Tryd.underlying3
  a3 := Tryd.isAgg3
  z3 := Tryd.sizeOf3
  v3 := Tryd.zeroValue3 }
open Go.RowKit Go.Lib in
/-- internal/bytealg.Cutover: "Cutover reports the number of failures of IndexByte we should tolerate before switching over to Index. n is the number of bytes processed so far.": on amd64: (n + 16) / 8. (LAID: no walk: one application.) -/
theorem Tryd.bytealg_Cutover (n : Int) (h0 : 0 ≤ n) (h1 : n < 4611686018427387904) (w : World) :
    Calls Tryd.prog 33 #[.int .i64 n] w fun e w' => e = .returned (.int .i64 ((n + 16) / 8)) ∧ w' = w := Any.bytealg_Cutover Tryd.lays224 n h0 h1 w
def Tryd.lays164_ren : Go.Shelf.Ren := ⟨fun | 164 => 20 | 197 => 29 | 239 => 30 | 260 => 37 | 274 => 38 | 275 => 39 | n => n, fun | 9 => 9 | 4 => 4 | 3 => 3 | 5 => 5 | 0 => 0 | 21 => 21 | 105 => 46 | 156 => 58 | 49 => 57 | 157 => 59 | 46 => 53 | 159 => 61 | 162 => 64 | 160 => 62 | 119 => 66 | 139 => 69 | 138 => 68 | 208 => 74 | 51 => 70 | 206 => 72 | n => n, fun | 11 => 0 | 12 => 1 | 13 => 2 | 3 => 4 | 4 => 5 | n => n⟩
theorem Tryd.lays164 : Go.Proofs.Lays.n164 Tryd.prog Tryd.lays164_ren := {
  mixed := by kernel_rfl
  f164 := Tryd.func20.trans (congrArg some (by kernel_rfl))
  f197 := Tryd.func29.trans (congrArg some (by kernel_rfl))
  f239 := Tryd.func30.trans (congrArg some (by kernel_rfl))
  f260 := Tryd.func37.trans (congrArg some (by kernel_rfl))
  f274 := Tryd.func38.trans (congrArg some (by kernel_rfl))
  f275 := Tryd.func39.trans (congrArg some (by kernel_rfl))
  t0 := Tryd.underlying0
  a0 := Tryd.isAgg0
  z0 := Tryd.sizeOf0
  v0 := Tryd.zeroValue0
  t3 := Tryd.underlying3
  a3 := Tryd.isAgg3
  z3 := Tryd.sizeOf3
  v3 := Tryd.zeroValue3
  t4 := Tryd.underlying4
  a4 := Tryd.isAgg4
  z4 := Tryd.sizeOf4
  v4 := Tryd.zeroValue4
  t5 := Tryd.underlying5
  a5 := Tryd.isAgg5
  z5 := Tryd.sizeOf5
  v5 := Tryd.zeroValue5
  t9 := Tryd.underlying9
  a9 := Tryd.isAgg9
  z9 := Tryd.sizeOf9
  v9 := Tryd.zeroValue9
  t21 := Tryd.underlying21
  a21 := Tryd.isAgg21
  z21 := Tryd.sizeOf21
  v21 := Tryd.zeroValue21
  t46 := Tryd.underlying53
  a46 := Tryd.isAgg53
  z46 := Tryd.sizeOf53
  v46 := Tryd.zeroValue53
  t49 := Tryd.underlying57
  a49 := Tryd.isAgg57
  z49 := Tryd.sizeOf57
  v49 := Tryd.zeroValue57
  t51 := Tryd.underlying70
  a51 := Tryd.isAgg70
  z51 := Tryd.sizeOf70
  v51 := Tryd.zeroValue70
  t105 := Tryd.underlying46
  a105 := Tryd.isAgg46
  z105 := Tryd.sizeOf46
  v105 := Tryd.zeroValue46
  t119 := Tryd.underlying66
  a119 := Tryd.isAgg66
  z119 := Tryd.sizeOf66
  t138 := Tryd.underlying68
  a138 := Tryd.isAgg68
  z138 := Tryd.sizeOf68
  v138 := Tryd.zeroValue68
  t139 := Tryd.underlying69
  a139 := Tryd.isAgg69
  z139 := Tryd.sizeOf69
  v139 := Tryd.zeroValue69
  t156 := Tryd.underlying58
  a156 := Tryd.isAgg58
  z156 := Tryd.sizeOf58
  t157 := Tryd.underlying59
  a157 := Tryd.isAgg59
  z157 := Tryd.sizeOf59
  v157 := Tryd.zeroValue59
  t159 := Tryd.underlying61
  a159 := Tryd.isAgg61
  z159 := Tryd.sizeOf61
  v159 := Tryd.zeroValue61
  t160 := Tryd.underlying62
  a160 := Tryd.isAgg62
  z160 := Tryd.sizeOf62
  v160 := Tryd.zeroValue62
  t162 := Tryd.underlying64
  a162 := Tryd.isAgg64
  z162 := Tryd.sizeOf64
  v162 := Tryd.zeroValue64
  t206 := Tryd.underlying72
  a206 := Tryd.isAgg72
  z206 := Tryd.sizeOf72
  v206 := Tryd.zeroValue72
  t208 := Tryd.underlying74
  a208 := Tryd.isAgg74
  z208 := Tryd.sizeOf74
  v208 := Tryd.zeroValue74
  g3 := by kernel_rfl
  g4 := by kernel_rfl
  g11 := by kernel_rfl
  g12 := by kernel_rfl
  g13 := by kernel_rfl }
open Go.RowKit Go.Lib in
theorem Tryd.strings_EqualFold (s t : ByteArray) (w : World) (hs : s.size < 4294967281) (has : ∀ (j : Nat) b, s.data.toList[j]? = some b → b.toNat < 128) (hat : ∀ (j : Nat) b, t.data.toList[j]? = some b → b.toNat < 128) :
    Calls Tryd.prog 20 #[.string s, .string t] w fun e w' => e = .returned (.bool (Lib.equalFold s.data.toList t.data.toList)) ∧ w' = w := Any.strings_EqualFold Tryd.lays164 s t w hs has hat
def Tryd.lays197_ren : Go.Shelf.Ren := ⟨fun | 197 => 29 | 260 => 37 | n => n, fun | 9 => 9 | 21 => 21 | 3 => 3 | 4 => 4 | 5 => 5 | 105 => 46 | 119 => 66 | 0 => 0 | 46 => 53 | 139 => 69 | 138 => 68 | n => n, fun | 3 => 4 | 4 => 5 | n => n⟩
theorem Tryd.lays197 : Go.Proofs.Lays.n197 Tryd.prog Tryd.lays197_ren := {
  mixed := by kernel_rfl
  f197 := Tryd.func29.trans (congrArg some (by kernel_rfl))
  f260 := Tryd.func37.trans (congrArg some (by kernel_rfl))
  t0 := Tryd.underlying0
  a0 := Tryd.isAgg0
  z0 := Tryd.sizeOf0
  v0 := Tryd.zeroValue0
  t3 := Tryd.underlying3
  a3 := Tryd.isAgg3
  z3 := Tryd.sizeOf3
  v3 := Tryd.zeroValue3
  t4 := Tryd.underlying4
  a4 := Tryd.isAgg4
  z4 := Tryd.sizeOf4
  v4 := Tryd.zeroValue4
  t5 := Tryd.underlying5
  a5 := Tryd.isAgg5
  z5 := Tryd.sizeOf5
  v5 := Tryd.zeroValue5
  t9 := Tryd.underlying9
  a9 := Tryd.isAgg9
  z9 := Tryd.sizeOf9
  v9 := Tryd.zeroValue9
  t21 := Tryd.underlying21
  a21 := Tryd.isAgg21
  z21 := Tryd.sizeOf21
  v21 := Tryd.zeroValue21
  t46 := Tryd.underlying53
  a46 := Tryd.isAgg53
  z46 := Tryd.sizeOf53
  v46 := Tryd.zeroValue53
  t105 := Tryd.underlying46
  a105 := Tryd.isAgg46
  z105 := Tryd.sizeOf46
  v105 := Tryd.zeroValue46
  t119 := Tryd.underlying66
  a119 := Tryd.isAgg66
  z119 := Tryd.sizeOf66
  t138 := Tryd.underlying68
  a138 := Tryd.isAgg68
  z138 := Tryd.sizeOf68
  v138 := Tryd.zeroValue68
  t139 := Tryd.underlying69
  a139 := Tryd.isAgg69
  z139 := Tryd.sizeOf69
  v139 := Tryd.zeroValue69
  g3 := by kernel_rfl
  g4 := by kernel_rfl }
open Go.RowKit Go.Lib in
/-- unicode/utf8.DecodeRuneInString: "DecodeRuneInString is like DecodeRune but its input is a string.": ("DecodeRune unpacks the first UTF-8 encoding in p and returns the rune and its width in bytes."): WHERE s BEGINS WITH AN ASCII BYTE x: (x, 1). (LAID: no walk: one application.) -/
theorem Tryd.utf8_DecodeRuneInString_ascii (s : ByteArray) (x : UInt8) (w : World) (h0 : s.data.toList[0]? = some x) (hx : x.toNat < 128) :
    Calls Tryd.prog 29 #[.string s] w fun e w' => e = .returned (.tuple #[.int .i32 x.toNat, .int .i64 1]) ∧ w' = w := Any.utf8_DecodeRuneInString_ascii Tryd.lays197 s x w h0 hx
def Tryd.lays152_ren : Go.Shelf.Ren := ⟨fun | 152 => 23 | 137 => 31 | 119 => 32 | 224 => 33 | 225 => 34 | 217 => 40 | 266 => 41 | n => n, fun | 9 => 9 | 21 => 21 | 3 => 3 | 4 => 4 | 5 => 5 | 0 => 0 | 46 => 53 | n => n, fun | n => n⟩
theorem Tryd.lays152 : Go.Proofs.Lays.n152 Tryd.prog Tryd.lays152_ren := {
  mixed := by kernel_rfl
  f119 := Tryd.func32.trans (congrArg some (by kernel_rfl))
  f137 := Tryd.func31.trans (congrArg some (by kernel_rfl))
  f152 := Tryd.func23.trans (congrArg some (by kernel_rfl))
  f217 := Tryd.func40.trans (congrArg some (by kernel_rfl))
  f224 := Tryd.func33.trans (congrArg some (by kernel_rfl))
  f225 := Tryd.func34.trans (congrArg some (by kernel_rfl))
  f266 := Tryd.func41.trans (congrArg some (by kernel_rfl))
  t0 := Tryd.underlying0
  a0 := Tryd.isAgg0
  z0 := Tryd.sizeOf0
  v0 := Tryd.zeroValue0
  t3 := Tryd.underlying3
  a3 := Tryd.isAgg3
  z3 := Tryd.sizeOf3
  v3 := Tryd.zeroValue3
  t4 := Tryd.underlying4
  a4 := Tryd.isAgg4
  z4 := Tryd.sizeOf4
  v4 := Tryd.zeroValue4
  t5 := Tryd.underlying5
  a5 := Tryd.isAgg5
  z5 := Tryd.sizeOf5
  v5 := Tryd.zeroValue5
  t9 := Tryd.underlying9
  a9 := Tryd.isAgg9
  z9 := Tryd.sizeOf9
  v9 := Tryd.zeroValue9
  t21 := Tryd.underlying21
  a21 := Tryd.isAgg21
  z21 := Tryd.sizeOf21
  v21 := Tryd.zeroValue21
  t46 := Tryd.underlying53
  a46 := Tryd.isAgg53
  z46 := Tryd.sizeOf53
  v46 := Tryd.zeroValue53 }
open Go.RowKit Go.Lib in
theorem Tryd.strings_IndexRune_ascii (s : ByteArray) (r : Int) (w : World) (h0 : 0 ≤ r) (h1 : r < 128) :
    Calls Tryd.prog 23 #[.string s, .int .i32 r] w fun e w' => e = .returned (.int .i64 (Lib.indexByte s.data.toList r.toNat.toUInt8)) ∧ w' = w := Any.strings_IndexRune_ascii Tryd.lays152 s r w h0 h1
def Tryd.lays226_ren : Go.Shelf.Ren := ⟨fun | 226 => 24 | n => n, fun | 3 => 3 | 4 => 4 | n => n, fun | n => n⟩
theorem Tryd.lays226 : Go.Proofs.Lays.n226 Tryd.prog Tryd.lays226_ren := {
  mixed := by kernel_rfl
  f226 := Tryd.func24.trans (congrArg some (by kernel_rfl))
  t3 := Tryd.underlying3
  a3 := Tryd.isAgg3
  z3 := Tryd.sizeOf3
  v3 := Tryd.zeroValue3
  t4 := Tryd.underlying4
  a4 := Tryd.isAgg4
  z4 := Tryd.sizeOf4
  v4 := Tryd.zeroValue4 }
open Go.RowKit Go.Lib in
theorem Tryd.strings_shouldUseASCIISet (n : Int) (w : World) :
    Calls Tryd.prog 24 #[.int .i64 n] w fun e w' => e = .returned (.bool (decide (8 < n))) ∧ w' = w := Any.strings_shouldUseASCIISet Tryd.lays226 n w
def Tryd.lays227_ren : Go.Shelf.Ren := ⟨fun | 227 => 25 | n => n, fun | 9 => 9 | 116 => 42 | 4 => 4 | 0 => 0 | 3 => 3 | 5 => 5 | n => n, fun | n => n⟩
theorem Tryd.lays227 : Go.Proofs.Lays.n227 Tryd.prog Tryd.lays227_ren := {
  mixed := by kernel_rfl
  f227 := Tryd.func25.trans (congrArg some (by kernel_rfl))
  t0 := Tryd.underlying0
  a0 := Tryd.isAgg0
  z0 := Tryd.sizeOf0
  v0 := Tryd.zeroValue0
  t3 := Tryd.underlying3
  a3 := Tryd.isAgg3
  z3 := Tryd.sizeOf3
  v3 := Tryd.zeroValue3
  t4 := Tryd.underlying4
  a4 := Tryd.isAgg4
  z4 := Tryd.sizeOf4
  v4 := Tryd.zeroValue4
  t5 := Tryd.underlying5
  a5 := Tryd.isAgg5
  z5 := Tryd.sizeOf5
  v5 := Tryd.zeroValue5
  t9 := Tryd.underlying9
  a9 := Tryd.isAgg9
  z9 := Tryd.sizeOf9
  v9 := Tryd.zeroValue9
  t116 := Tryd.underlying42
  a116 := Tryd.isAgg42
  z116 := Tryd.sizeOf42 }
open Go.RowKit Go.Lib in
theorem Tryd.strings_makeASCIISet (hv116 : ∀ w, (zeroValue 42).run Tryd.prog w = .ok (.agg (Array.replicate 256 (.bool false))) w) (chars : ByteArray) (w : World) (hs : chars.size < 4294967281) (hascii : ∀ (j : Nat) b, chars.data.toList[j]? = some b → b.toNat < 128) :
    Calls Tryd.prog 25 #[.string chars] w fun e w' => e = .returned (.tuple #[.agg (Lib.setCells chars.data.toList), .bool true]) ∧ w' = w.alloc (.cells (Lib.setCells chars.data.toList) 42) := Any.strings_makeASCIISet Tryd.lays227 hv116 (by kernel_rfl) chars w hs hascii
def Tryd.lays228_ren : Go.Shelf.Ren := ⟨fun | 228 => 26 | n => n, fun | 124 => 54 | 5 => 5 | 4 => 4 | 0 => 0 | 116 => 42 | n => n, fun | n => n⟩
theorem Tryd.lays228 : Go.Proofs.Lays.n228 Tryd.prog Tryd.lays228_ren := {
  mixed := by kernel_rfl
  f228 := Tryd.func26.trans (congrArg some (by kernel_rfl))
  t0 := Tryd.underlying0
  a0 := Tryd.isAgg0
  z0 := Tryd.sizeOf0
  v0 := Tryd.zeroValue0
  t4 := Tryd.underlying4
  a4 := Tryd.isAgg4
  z4 := Tryd.sizeOf4
  v4 := Tryd.zeroValue4
  t5 := Tryd.underlying5
  a5 := Tryd.isAgg5
  z5 := Tryd.sizeOf5
  v5 := Tryd.zeroValue5
  t116 := Tryd.underlying42
  a116 := Tryd.isAgg42
  z116 := Tryd.sizeOf42
  t124 := Tryd.underlying54
  a124 := Tryd.isAgg54
  z124 := Tryd.sizeOf54
  v124 := Tryd.zeroValue54 }
open Go.RowKit Go.Lib in
/-- '(as *asciiSet) contains(c)': 'as[c]': the set lies at block b, whole. (LAID: no walk: one application.) -/
theorem Tryd.asciiSet_contains (b : Nat) (x : UInt8) (v : Bool) (w : World) (hc : w.cell? ⟨b, x.toNat, none⟩ = some (.bool v)) :
    Calls Tryd.prog 26 #[.pointer (some ⟨b, 0, none⟩), .int .u8 x.toNat] w fun e w' => e = .returned (.bool v) ∧ w' = w := Any.asciiSet_contains Tryd.lays228 b x v w hc
def Tryd.lays260_ren : Go.Shelf.Ren := ⟨fun | 260 => 37 | n => n, fun | 9 => 9 | 21 => 21 | 3 => 3 | 4 => 4 | 5 => 5 | 119 => 66 | 0 => 0 | 46 => 53 | 139 => 69 | 138 => 68 | n => n, fun | 3 => 4 | 4 => 5 | n => n⟩
theorem Tryd.lays260 : Go.Proofs.Lays.n260 Tryd.prog Tryd.lays260_ren := {
  mixed := by kernel_rfl
  f260 := Tryd.func37.trans (congrArg some (by kernel_rfl))
  t0 := Tryd.underlying0
  a0 := Tryd.isAgg0
  z0 := Tryd.sizeOf0
  v0 := Tryd.zeroValue0
  t3 := Tryd.underlying3
  a3 := Tryd.isAgg3
  z3 := Tryd.sizeOf3
  v3 := Tryd.zeroValue3
  t4 := Tryd.underlying4
  a4 := Tryd.isAgg4
  z4 := Tryd.sizeOf4
  v4 := Tryd.zeroValue4
  t5 := Tryd.underlying5
  a5 := Tryd.isAgg5
  z5 := Tryd.sizeOf5
  v5 := Tryd.zeroValue5
  t9 := Tryd.underlying9
  a9 := Tryd.isAgg9
  z9 := Tryd.sizeOf9
  v9 := Tryd.zeroValue9
  t21 := Tryd.underlying21
  a21 := Tryd.isAgg21
  z21 := Tryd.sizeOf21
  v21 := Tryd.zeroValue21
  t46 := Tryd.underlying53
  a46 := Tryd.isAgg53
  z46 := Tryd.sizeOf53
  v46 := Tryd.zeroValue53
  t119 := Tryd.underlying66
  a119 := Tryd.isAgg66
  z119 := Tryd.sizeOf66
  t138 := Tryd.underlying68
  a138 := Tryd.isAgg68
  z138 := Tryd.sizeOf68
  v138 := Tryd.zeroValue68
  t139 := Tryd.underlying69
  a139 := Tryd.isAgg69
  z139 := Tryd.sizeOf69
  v139 := Tryd.zeroValue69
  g3 := by kernel_rfl
  g4 := by kernel_rfl }
open Go.RowKit Go.Lib in
theorem Tryd.utf8_decodeRuneInStringSlow (s : ByteArray) (w : World) (hT : Lib.Utf8Tabs 4 5 w) :
    Calls Tryd.prog 37 #[.string s] w fun e w' => e = .returned (.tuple #[.int .i32 (Lib.decodeGo s).1, .int .i64 (Lib.decodeGo s).2]) ∧ Below w.heap.size w w' := Any.utf8_decodeRuneInStringSlow Tryd.lays260 s w hT
open Go.RowKit Go.Lib in
/-- **unicode/utf8.DecodeRuneInString AT EVERY STRING.** (LAID: no walk: one application.) -/
theorem Tryd.utf8_DecodeRuneInString (s : ByteArray) (w : World) (hT : Lib.Utf8Tabs 4 5 w) :
    Calls Tryd.prog 29 #[.string s] w fun e w' => e = .returned (.tuple #[.int .i32 (Lib.decodeGo s).1, .int .i64 (Lib.decodeGo s).2]) ∧ Below w.heap.size w w' := Any.utf8_DecodeRuneInString Tryd.lays197 s w hT
def Tryd.lays271_ren : Go.Shelf.Ren := ⟨fun | 271 => 27 | 120 => 35 | 197 => 29 | 260 => 37 | n => n, fun | 9 => 9 | 21 => 21 | 3 => 3 | 4 => 4 | 5 => 5 | 105 => 46 | 119 => 66 | 0 => 0 | 46 => 53 | 139 => 69 | 138 => 68 | n => n, fun | 3 => 4 | 4 => 5 | n => n⟩
theorem Tryd.lays271 : Go.Proofs.Lays.n271 Tryd.prog Tryd.lays271_ren := {
  mixed := by kernel_rfl
  f120 := Tryd.func35.trans (congrArg some (by kernel_rfl))
  f197 := Tryd.func29.trans (congrArg some (by kernel_rfl))
  f260 := Tryd.func37.trans (congrArg some (by kernel_rfl))
  f271 := Tryd.func27.trans (congrArg some (by kernel_rfl))
  t0 := Tryd.underlying0
  a0 := Tryd.isAgg0
  z0 := Tryd.sizeOf0
  v0 := Tryd.zeroValue0
  t3 := Tryd.underlying3
  a3 := Tryd.isAgg3
  z3 := Tryd.sizeOf3
  v3 := Tryd.zeroValue3
  t4 := Tryd.underlying4
  a4 := Tryd.isAgg4
  z4 := Tryd.sizeOf4
  v4 := Tryd.zeroValue4
  t5 := Tryd.underlying5
  a5 := Tryd.isAgg5
  z5 := Tryd.sizeOf5
  v5 := Tryd.zeroValue5
  t9 := Tryd.underlying9
  a9 := Tryd.isAgg9
  z9 := Tryd.sizeOf9
  v9 := Tryd.zeroValue9
  t21 := Tryd.underlying21
  a21 := Tryd.isAgg21
  z21 := Tryd.sizeOf21
  v21 := Tryd.zeroValue21
  t46 := Tryd.underlying53
  a46 := Tryd.isAgg53
  z46 := Tryd.sizeOf53
  v46 := Tryd.zeroValue53
  t105 := Tryd.underlying46
  a105 := Tryd.isAgg46
  z105 := Tryd.sizeOf46
  v105 := Tryd.zeroValue46
  t119 := Tryd.underlying66
  a119 := Tryd.isAgg66
  z119 := Tryd.sizeOf66
  t138 := Tryd.underlying68
  a138 := Tryd.isAgg68
  z138 := Tryd.sizeOf68
  v138 := Tryd.zeroValue68
  t139 := Tryd.underlying69
  a139 := Tryd.isAgg69
  z139 := Tryd.sizeOf69
  v139 := Tryd.zeroValue69
  g3 := by kernel_rfl
  g4 := by kernel_rfl }
open Go.RowKit Go.Lib in
/-- **unicode/utf8.DecodeLastRuneInString AT EVERY STRING.** (LAID: no walk: one application.) -/
theorem Tryd.utf8_DecodeLastRuneInString (s : ByteArray) (w : World) (hs : s.size ≤ 9223372036854775807) (hT : Lib.Utf8Tabs 4 5 w) :
    Calls Tryd.prog 27 #[.string s] w fun e w' => e = .returned (.tuple #[.int .i32 (Lib.decodeLastL s.data.toList).1, .int .i64 (Lib.decodeLastL s.data.toList).2]) ∧ Below w.heap.size w w' := Any.utf8_DecodeLastRuneInString Tryd.lays271 s w hs hT
def Tryd.lays274_ren : Go.Shelf.Ren := ⟨fun | 274 => 38 | n => n, fun | 21 => 21 | 162 => 64 | 160 => 62 | 3 => 3 | 4 => 4 | 46 => 53 | 0 => 0 | 208 => 74 | 51 => 70 | 206 => 72 | n => n, fun | n => n⟩
theorem Tryd.lays274 : Go.Proofs.Lays.n274 Tryd.prog Tryd.lays274_ren := {
  mixed := by kernel_rfl
  f274 := Tryd.func38.trans (congrArg some (by kernel_rfl))
  t0 := Tryd.underlying0
  a0 := Tryd.isAgg0
  z0 := Tryd.sizeOf0
  v0 := Tryd.zeroValue0
  t3 := Tryd.underlying3
  a3 := Tryd.isAgg3
  z3 := Tryd.sizeOf3
  v3 := Tryd.zeroValue3
  t4 := Tryd.underlying4
  a4 := Tryd.isAgg4
  z4 := Tryd.sizeOf4
  v4 := Tryd.zeroValue4
  t21 := Tryd.underlying21
  a21 := Tryd.isAgg21
  z21 := Tryd.sizeOf21
  v21 := Tryd.zeroValue21
  t46 := Tryd.underlying53
  a46 := Tryd.isAgg53
  z46 := Tryd.sizeOf53
  v46 := Tryd.zeroValue53
  t51 := Tryd.underlying70
  a51 := Tryd.isAgg70
  z51 := Tryd.sizeOf70
  v51 := Tryd.zeroValue70
  t160 := Tryd.underlying62
  a160 := Tryd.isAgg62
  z160 := Tryd.sizeOf62
  v160 := Tryd.zeroValue62
  t162 := Tryd.underlying64
  a162 := Tryd.isAgg64
  z162 := Tryd.sizeOf64
  v162 := Tryd.zeroValue64
  t208 := Tryd.underlying74
  a208 := Tryd.isAgg74
  z208 := Tryd.sizeOf74
  v208 := Tryd.zeroValue74 }
open Go.RowKit Go.Lib in
theorem Tryd.unicode_lookupCaseRange (T : Array CaseRow) (R oR cap : Nat) (r : Int) (w : World) (hT : CaseTab R oR T w) (hok : CaseOk T) (hn : T.size ≤ 1000000000) :
    Calls Tryd.prog 38 #[.int .i32 r, .slice (some ⟨R, oR, none⟩) T.size cap] w fun e w' =>
      e = .returned (match lookupIdx T r (T.size + 1) 0 T.size with | some i => .pointer (some ⟨R, oR + i * 5, none⟩) | none => .pointer none) ∧ w' = w := Any.unicode_lookupCaseRange Tryd.lays274 T R oR cap r w hT hok hn
def Tryd.lays275_ren : Go.Shelf.Ren := ⟨fun | 275 => 39 | n => n, fun | 3 => 3 | 21 => 21 | 160 => 62 | 0 => 0 | 208 => 74 | 206 => 72 | 4 => 4 | 51 => 70 | n => n, fun | n => n⟩
theorem Tryd.lays275 : Go.Proofs.Lays.n275 Tryd.prog Tryd.lays275_ren := {
  mixed := by kernel_rfl
  f275 := Tryd.func39.trans (congrArg some (by kernel_rfl))
  t0 := Tryd.underlying0
  a0 := Tryd.isAgg0
  z0 := Tryd.sizeOf0
  v0 := Tryd.zeroValue0
  t3 := Tryd.underlying3
  a3 := Tryd.isAgg3
  z3 := Tryd.sizeOf3
  v3 := Tryd.zeroValue3
  t4 := Tryd.underlying4
  a4 := Tryd.isAgg4
  z4 := Tryd.sizeOf4
  v4 := Tryd.zeroValue4
  t21 := Tryd.underlying21
  a21 := Tryd.isAgg21
  z21 := Tryd.sizeOf21
  v21 := Tryd.zeroValue21
  t51 := Tryd.underlying70
  a51 := Tryd.isAgg70
  z51 := Tryd.sizeOf70
  v51 := Tryd.zeroValue70
  t160 := Tryd.underlying62
  a160 := Tryd.isAgg62
  z160 := Tryd.sizeOf62
  v160 := Tryd.zeroValue62
  t206 := Tryd.underlying72
  a206 := Tryd.isAgg72
  z206 := Tryd.sizeOf72
  v206 := Tryd.zeroValue72
  t208 := Tryd.underlying74
  a208 := Tryd.isAgg74
  z208 := Tryd.sizeOf74
  v208 := Tryd.zeroValue74 }
open Go.RowKit Go.Lib in
theorem Tryd.unicode_convertCase (c : Nat) (hc : c < 3) (r : Int) (A o : Nat) (x : CaseRow) (w : World) (hlo : (x.1 : Int) ≤ r) (hhi : r ≤ (x.2.1 : Int)) (hH : x.2.1 < 2147483647) (c0 : w.cell? ⟨A, o, none⟩ = some (.int .u32 x.1)) (cD : w.cell? ⟨A, o + 2 + c, none⟩ = some (.int .i32 (x.delta c))) :
    Calls Tryd.prog 39 #[.int .i64 c, .int .i32 r, .pointer (some ⟨A, o, none⟩)] w fun e w' => e = .returned (.int .i32 (wrap32 (convertR c r x))) ∧ ∃ q, w' = w.drewN q := Any.unicode_convertCase Tryd.lays275 c hc r A o x w hlo hhi hH c0 cD
end Go.Proofs
