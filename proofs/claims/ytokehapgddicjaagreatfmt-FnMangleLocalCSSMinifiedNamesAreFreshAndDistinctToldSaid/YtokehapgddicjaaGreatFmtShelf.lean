/-
  DERIVED: THE SHELF's CONTRACTS AT THIS DUMP, IN PLAIN WORDS (tools/lay-plain.mjs out of 'TryzShelf.lean', which tools/lay-shelf.mjs wrote): THE SAME DECLARATIONS UNDER THE SAME NAMES: 'import', 'namespace', 'open', 'def', 'theorem' AND NOTHING ELSE: no command of the shelf's: FOR A HAND-IN. Each laying: the table of numbers ('.._ren') and one theorem, a field a fact of the dump's own or the kernel's comparison; each contract: ONE APPLICATION.
-/
import Derived.Shelf.Strings.Builder1
import Derived.Shelf.Small.Bits
import Derived.Shelf.Small.Strs
import Derived.Shelf.Strings.BuilderF
import Derived.Shelf.Strings.BuilderK
import Derived.Shelf.Strconv.Itoa0
import Derived.Shelf.Strings.Search1
import Derived.Ground.GgtProg
import Derived.Shelf.GgSortMore.Iface
import Derived.Shelf.GgSortMore.IfaceD
import Derived.Shelf.GgSortMore.IfacePart
import Derived.Shelf.GgSortMore.IfacePdq
import Derived.Shelf.GgSortMore.SortSort
import Derived.Ground.GgsProg
import Derived.Shelf.SlSortFunc.Xorshift
import Derived.Shelf.SlSortIface.SiftDown
import Derived.Shelf.SlSortIface.HeapSort
import Derived.Shelf.SlSortIface.PartialInsertion
import Derived.Test.YtokehapgddicjaaGreatFmtProg
namespace Go.Proofs
open Go.Shelf
def Tryz.lays170_ren : Go.Shelf.Ren := ⟨fun | 170 => 148 | n => n, fun | 70 => 230 | 3 => 3 | 0 => 0 | 72 => 232 | 37 => 92 | 5 => 5 | n => n, fun | n => n⟩
theorem Tryz.lays170 : Go.Proofs.Lays.n170 Tryz.prog Tryz.lays170_ren := {
  mixed := by kernel_rfl
  f170 := Tryz.func148.trans (congrArg some (by kernel_rfl))
  t0 := Tryz.underlying0
  a0 := Tryz.isAgg0
  z0 := Tryz.sizeOf0
  v0 := Tryz.zeroValue0
  t3 := Tryz.underlying3
  a3 := Tryz.isAgg3
  z3 := Tryz.sizeOf3
  v3 := Tryz.zeroValue3
  t37 := Tryz.underlying92
  a37 := Tryz.isAgg92
  z37 := Tryz.sizeOf92
  v37 := Tryz.zeroValue92
  t70 := Tryz.underlying230
  a70 := Tryz.isAgg230
  z70 := Tryz.sizeOf230
  v70 := Tryz.zeroValue230
  t72 := Tryz.underlying232
  a72 := Tryz.isAgg232
  z72 := Tryz.sizeOf232
  v72 := Tryz.zeroValue232 }
open Go.RowKit in
/-- (*strings.Builder).Len: "Len returns the number of accumulated bytes; b.Len() == len(b.String()).": the world is as it was. (LAID: no walk: one application.) -/
theorem Tryz.Builder_Len (B b : Nat) (bs : List Value) (w : World) (h : Lib.IsBuilder 232 5 B b bs w) :
    Calls Tryz.prog 148 #[.pointer (some ⟨b, 0, none⟩)] w fun e w' => e = .returned (.int .i64 bs.length) ∧ w' = w := Any.Builder_Len Tryz.lays170 B b bs w h
def Tryz.lays169_ren : Go.Shelf.Ren := ⟨fun | 169 => 41 | n => n, fun | 70 => 230 | 9 => 9 | 0 => 0 | 72 => 232 | 37 => 92 | 127 => 250 | 3 => 3 | 5 => 5 | n => n, fun | n => n⟩
theorem Tryz.lays169 : Go.Proofs.Lays.n169 Tryz.prog Tryz.lays169_ren := {
  mixed := by kernel_rfl
  f169 := Tryz.func41.trans (congrArg some (by kernel_rfl))
  t0 := Tryz.underlying0
  a0 := Tryz.isAgg0
  z0 := Tryz.sizeOf0
  v0 := Tryz.zeroValue0
  t3 := Tryz.underlying3
  a3 := Tryz.isAgg3
  z3 := Tryz.sizeOf3
  v3 := Tryz.zeroValue3
  t9 := Tryz.underlying9
  a9 := Tryz.isAgg9
  z9 := Tryz.sizeOf9
  v9 := Tryz.zeroValue9
  t37 := Tryz.underlying92
  a37 := Tryz.isAgg92
  z37 := Tryz.sizeOf92
  v37 := Tryz.zeroValue92
  t70 := Tryz.underlying230
  a70 := Tryz.isAgg230
  z70 := Tryz.sizeOf230
  v70 := Tryz.zeroValue230
  t72 := Tryz.underlying232
  a72 := Tryz.isAgg232
  z72 := Tryz.sizeOf232
  v72 := Tryz.zeroValue232
  t127 := Tryz.underlying250
  a127 := Tryz.isAgg250
  z127 := Tryz.sizeOf250
  v127 := Tryz.zeroValue250 }
theorem Tryz.Builder_Extra_169 : Builder.Extra Tryz.prog Tryz.lays169_ren := {
  sizeBuilder := by kernel_rfl
  liesBuilder := by kernel_rfl
  t5 := Tryz.underlying5
  a5 := Tryz.isAgg5
  z5 := Tryz.sizeOf5
  v5 := Tryz.zeroValue5
  infoByte := by kernel_rfl
  cellsByte := by kernel_rfl
  sizeByte := by kernel_rfl
  neB5 := by decide }
open Go.RowKit in
/-- (*strings.Builder).String: "String returns the accumulated string.": OF A BUILDER THAT HOLDS AT LEAST ONE BYTE. ✋ THE MODEL FREEZES THOSE BYTES IN THE BUFFER (unsafe.String): a later write INTO them ends the model's run without an answer; a later append BEHIND them goes on. The statement's order of evaluation is drawn: one draw. (LAID: no walk: one application.) -/
theorem Tryz.Builder_String (B b : Nat) (l : List UInt8) (w : World) (h : Lib.IsBuilder 232 5 B b (Lib.byteCells l) w) (h0 : l ≠ []) :
    Calls Tryz.prog 41 #[.pointer (some ⟨b, 0, none⟩)] w fun e w' => e = .returned (.string ⟨l.toArray⟩) ∧ Below B w w' := Any.Builder_String Tryz.lays169 Tryz.Builder_Extra_169 B b l w h h0
open Go.RowKit in
/-- (*strings.Builder).String OF A BUILDER THAT HOLDS NO BYTE: the empty string. (Its buffer is nil, or a row of which it has taken nothing yet; where that row has NO capacity the model lays one new block for unsafe.SliceData's 'some address'.) One draw. (LAID: no walk: one application.) -/
theorem Tryz.Builder_String_empty (B b : Nat) (w : World) (h : Lib.IsBuilder 232 5 B b [] w) (hBw : B ≤ w.heap.size) :
    Calls Tryz.prog 41 #[.pointer (some ⟨b, 0, none⟩)] w fun e w' => e = .returned (.string ⟨#[]⟩) ∧ Below B w w' := Any.Builder_String_empty Tryz.lays169 Tryz.Builder_Extra_169 B b w h hBw
open Go.RowKit in
/-- (*strings.Builder).String: "String returns the accumulated string.": WHATEVER THE BUILDER HOLDS. (LAID: no walk: one application.) -/
theorem Tryz.Builder_String_any (B b : Nat) (l : List UInt8) (w : World) (h : Lib.IsBuilder 232 5 B b (Lib.byteCells l) w) (hBw : B ≤ w.heap.size) :
    Calls Tryz.prog 41 #[.pointer (some ⟨b, 0, none⟩)] w fun e w' => e = .returned (.string ⟨l.toArray⟩) ∧ Below B w w' := Any.Builder_String_any Tryz.lays169 Tryz.Builder_Extra_169 B b l w h hBw
def Tryz.lays128_ren : Go.Shelf.Ren := ⟨fun | 128 => 45 | n => n, fun | 51 => 34 | 3 => 3 | 4 => 4 | 46 => 224 | 5 => 5 | 9 => 9 | n => n, fun | n => n⟩
theorem Tryz.lays128 : Go.Proofs.Lays.n128 Tryz.prog Tryz.lays128_ren := {
  mixed := by kernel_rfl
  f128 := Tryz.func45.trans (congrArg some (by kernel_rfl))
  t3 := Tryz.underlying3
  a3 := Tryz.isAgg3
  z3 := Tryz.sizeOf3
  v3 := Tryz.zeroValue3
  t4 := Tryz.underlying4
  a4 := Tryz.isAgg4
  z4 := Tryz.sizeOf4
  v4 := Tryz.zeroValue4
  t5 := Tryz.underlying5
  a5 := Tryz.isAgg5
  z5 := Tryz.sizeOf5
  v5 := Tryz.zeroValue5
  t9 := Tryz.underlying9
  a9 := Tryz.isAgg9
  z9 := Tryz.sizeOf9
  v9 := Tryz.zeroValue9
  t46 := Tryz.underlying224
  a46 := Tryz.isAgg224
  z46 := Tryz.sizeOf224
  v46 := Tryz.zeroValue224
  t51 := Tryz.underlying34
  a51 := Tryz.isAgg34
  z51 := Tryz.sizeOf34
  v51 := Tryz.zeroValue34 }
/-- bits.Len32: "Len32 returns the minimum number of bits required to represent x; the result is 0 for x == 0.": IT RETURNS 'Lib.bitLen x'; the world is as it was. ('h0', 'h1': x is a uint32.) (LAID: no walk: one application.) -/
theorem Tryz.bits_Len32 (x : Int) (w : World) (h0 : 0 ≤ x) (h1 : x ≤ 4294967295) :
    Calls Tryz.prog 45 #[.int .u32 x] w fun e w' => e = .returned (.int .i64 (Lib.bitLen x.toNat)) ∧ w' = w := Any.bits_Len32 Tryz.lays128 x w h0 h1
def Tryz.lays125_ren : Go.Shelf.Ren := ⟨fun | 125 => 38 | 128 => 45 | 129 => 46 | n => n, fun | 46 => 224 | 3 => 3 | 51 => 34 | 53 => 26 | 4 => 4 | 5 => 5 | 9 => 9 | n => n, fun | n => n⟩
theorem Tryz.lays125 : Go.Proofs.Lays.n125 Tryz.prog Tryz.lays125_ren := {
  mixed := by kernel_rfl
  f125 := Tryz.func38.trans (congrArg some (by kernel_rfl))
  f128 := Tryz.func45.trans (congrArg some (by kernel_rfl))
  f129 := Tryz.func46.trans (congrArg some (by kernel_rfl))
  t3 := Tryz.underlying3
  a3 := Tryz.isAgg3
  z3 := Tryz.sizeOf3
  v3 := Tryz.zeroValue3
  t4 := Tryz.underlying4
  a4 := Tryz.isAgg4
  z4 := Tryz.sizeOf4
  v4 := Tryz.zeroValue4
  t5 := Tryz.underlying5
  a5 := Tryz.isAgg5
  z5 := Tryz.sizeOf5
  v5 := Tryz.zeroValue5
  t9 := Tryz.underlying9
  a9 := Tryz.isAgg9
  z9 := Tryz.sizeOf9
  v9 := Tryz.zeroValue9
  t46 := Tryz.underlying224
  a46 := Tryz.isAgg224
  z46 := Tryz.sizeOf224
  v46 := Tryz.zeroValue224
  t51 := Tryz.underlying34
  a51 := Tryz.isAgg34
  z51 := Tryz.sizeOf34
  v51 := Tryz.zeroValue34
  t53 := Tryz.underlying26
  a53 := Tryz.isAgg26
  z53 := Tryz.sizeOf26
  v53 := Tryz.zeroValue26 }
/-- bits.Len: "Len returns the minimum number of bits required to represent x; the result is 0 for x == 0.": IT RETURNS 'Lib.bitLen x'; the world is as it was. (A uint has 64 bits in the model.) ITS CALLEE bits.Len64 IS MET BY ITS OWN CONTRACT OFF THE SHELF (lay that first). (LAID: no walk: one application.) -/
theorem Tryz.bits_Len (x : Int) (w : World) (h0 : 0 ≤ x) (h1 : x ≤ 18446744073709551615) :
    Calls Tryz.prog 38 #[.int .u64 x] w fun e w' => e = .returned (.int .i64 (Lib.bitLen x.toNat)) ∧ w' = w := Any.bits_Len Tryz.lays125 x w h0 h1
def Tryz.lays137_ren : Go.Shelf.Ren := ⟨fun | 137 => 170 | 217 => 171 | 266 => 172 | n => n, fun | 9 => 9 | 5 => 5 | 3 => 3 | n => n, fun | n => n⟩
theorem Tryz.lays137 : Go.Proofs.Lays.n137 Tryz.prog Tryz.lays137_ren := {
  mixed := by kernel_rfl
  f137 := Tryz.func170.trans (congrArg some (by kernel_rfl))
  f217 := Tryz.func171.trans (congrArg some (by kernel_rfl))
  f266 := Tryz.func172.trans (congrArg some (by kernel_rfl))
  t3 := Tryz.underlying3
  a3 := Tryz.isAgg3
  z3 := Tryz.sizeOf3
  v3 := Tryz.zeroValue3
  t5 := Tryz.underlying5
  a5 := Tryz.isAgg5
  z5 := Tryz.sizeOf5
  v5 := Tryz.zeroValue5
  t9 := Tryz.underlying9
  a9 := Tryz.isAgg9
  z9 := Tryz.sizeOf9
  v9 := Tryz.zeroValue9 }
open Go.RowKit in
/-- strings.IndexByte: "IndexByte returns the index of the first instance of c in s, or -1 if c is not present in s.": IT RETURNS 'Lib.indexByte s c'; the world is as it was. (LAID: no walk: one application.) -/
theorem Tryz.strings_IndexByte (s : ByteArray) (c : Int) (w : World) :
    Calls Tryz.prog 170 #[.string s, .int .u8 c] w fun e w' => e = .returned (.int .i64 (Lib.indexByte s.data.toList c.toNat.toUInt8)) ∧ w' = w := Any.strings_IndexByte Tryz.lays137 s c w
open Go.RowKit in
/-- (*strings.Builder).Len: "Len returns the number of accumulated bytes; b.Len() == len(b.String()).": the world is as it was. (THE FORM '_f': 'Lib.IsBuilderF'.) (LAID: no walk: one application.) -/
theorem Tryz.Builder_Len_f (B b : Nat) (bs : List Value) (w : World) (h : Lib.IsBuilderF 232 5 B b bs w) :
    Calls Tryz.prog 148 #[.pointer (some ⟨b, 0, none⟩)] w fun e w' => e = .returned (.int .i64 bs.length) ∧ w' = w := Any.Builder_Len_f Tryz.lays170 B b bs w h
open Go.RowKit in
/-- (*strings.Builder).String: "String returns the accumulated string.": OF A BUILDER THAT HOLDS AT LEAST ONE BYTE. ✋ THE MODEL FREEZES THOSE BYTES IN THE BUFFER (unsafe.String): a later write INTO them ends the model's run without an answer; a later append BEHIND them goes on. The statement's order of evaluation is drawn: one draw. THE FORM '_f': IT SAYS BESIDES THAT THE BUILDER IS A BUILDER STILL ('Lib.IsBuilderF', the same bytes): SO IT CAN BE WRITTEN ON: 'b.WriteString(b.String()[:k])'. (LAID: no walk: one application.) -/
theorem Tryz.Builder_String_f (B b : Nat) (l : List UInt8) (w : World) (h : Lib.IsBuilderF 232 5 B b (Lib.byteCells l) w) (h0 : l ≠ []) :
    Calls Tryz.prog 41 #[.pointer (some ⟨b, 0, none⟩)] w fun e w' => e = .returned (.string ⟨l.toArray⟩) ∧ (Lib.IsBuilderF 232 5 B b (Lib.byteCells l) w' ∧ Below B w w') := Any.Builder_String_f Tryz.lays169 Tryz.Builder_Extra_169 B b l w h h0
open Go.RowKit in
/-- (*strings.Builder).String OF A BUILDER THAT HOLDS NO BYTE: the empty string; THE FORM '_f': a builder still. (LAID: no walk: one application.) -/
theorem Tryz.Builder_String_empty_f (B b : Nat) (w : World) (h : Lib.IsBuilderF 232 5 B b [] w) (hBw : B ≤ w.heap.size) :
    Calls Tryz.prog 41 #[.pointer (some ⟨b, 0, none⟩)] w fun e w' => e = .returned (.string ⟨#[]⟩) ∧ (Lib.IsBuilderF 232 5 B b [] w' ∧ Below B w w') := Any.Builder_String_empty_f Tryz.lays169 Tryz.Builder_Extra_169 B b w h hBw
open Go.RowKit in
/-- (*strings.Builder).String: "String returns the accumulated string.": WHATEVER THE BUILDER HOLDS; THE FORM '_f': OF A BUILDER THAT MAY HAVE BEEN READ BEFORE; AND IT IS A BUILDER STILL, holding the same bytes: it can be written on. (LAID: no walk: one application.) -/
theorem Tryz.Builder_String_any_f (B b : Nat) (l : List UInt8) (w : World) (h : Lib.IsBuilderF 232 5 B b (Lib.byteCells l) w) (hBw : B ≤ w.heap.size) :
    Calls Tryz.prog 41 #[.pointer (some ⟨b, 0, none⟩)] w fun e w' => e = .returned (.string ⟨l.toArray⟩) ∧ (Lib.IsBuilderF 232 5 B b (Lib.byteCells l) w' ∧ Below B w w') := Any.Builder_String_any_f Tryz.lays169 Tryz.Builder_Extra_169 B b l w h hBw
open Go.RowKit in
/-- (*strings.Builder).String: "String returns the accumulated string.": OF A BUILDER THAT HOLDS AT LEAST ONE BYTE. ✋ THE MODEL FREEZES THOSE BYTES IN THE BUFFER (unsafe.String): a later write INTO them ends the model's run without an answer; a later append BEHIND them goes on. The statement's order of evaluation is drawn: one draw. THE FORM '_k': OVER 'Lib.IsBuilderF' (a builder that 'String()' may have read), AND WITH THE FRAME THAT REACHES ABOVE THE BUILDER: 'Lib.OthersKept': every block that is not b and is no row of uint8's stands as it stood: the iterator of a range among them. (LAID: no walk: one application.) -/
theorem Tryz.Builder_String_k (B b : Nat) (l : List UInt8) (w : World) (h : Lib.IsBuilderF 232 5 B b (Lib.byteCells l) w) (h0 : l ≠ []) :
    Calls Tryz.prog 41 #[.pointer (some ⟨b, 0, none⟩)] w fun e w' => e = .returned (.string ⟨l.toArray⟩) ∧ (Lib.IsBuilderF 232 5 B b (Lib.byteCells l) w' ∧ Below B w w' ∧ Lib.OthersKept 5 (some b) w w') := Any.Builder_String_k Tryz.lays169 Tryz.Builder_Extra_169 B b l w h h0
open Go.RowKit in
/-- (*strings.Builder).String OF A BUILDER THAT HOLDS NO BYTE: the empty string; THE FORM '_k': OVER 'Lib.IsBuilderF' (a builder that 'String()' may have read), AND WITH THE FRAME THAT REACHES ABOVE THE BUILDER: 'Lib.OthersKept': every block that is not b and is no row of uint8's stands as it stood: the iterator of a range among them. (LAID: no walk: one application.) -/
theorem Tryz.Builder_String_empty_k (B b : Nat) (w : World) (h : Lib.IsBuilderF 232 5 B b [] w) (hBw : B ≤ w.heap.size) :
    Calls Tryz.prog 41 #[.pointer (some ⟨b, 0, none⟩)] w fun e w' => e = .returned (.string ⟨#[]⟩) ∧ (Lib.IsBuilderF 232 5 B b [] w' ∧ Below B w w' ∧ Lib.OthersKept 5 (some b) w w') := Any.Builder_String_empty_k Tryz.lays169 Tryz.Builder_Extra_169 B b w h hBw
open Go.RowKit in
/-- (*strings.Builder).String: "String returns the accumulated string.": WHATEVER THE BUILDER HOLDS; THE FORM '_k': OVER 'Lib.IsBuilderF' (a builder that 'String()' may have read), AND WITH THE FRAME THAT REACHES ABOVE THE BUILDER: 'Lib.OthersKept': every block that is not b and is no row of uint8's stands as it stood: the iterator of a range among them. (LAID: no walk: one application.) -/
theorem Tryz.Builder_String_any_k (B b : Nat) (l : List UInt8) (w : World) (h : Lib.IsBuilderF 232 5 B b (Lib.byteCells l) w) (hBw : B ≤ w.heap.size) :
    Calls Tryz.prog 41 #[.pointer (some ⟨b, 0, none⟩)] w fun e w' => e = .returned (.string ⟨l.toArray⟩) ∧ (Lib.IsBuilderF 232 5 B b (Lib.byteCells l) w' ∧ Below B w w' ∧ Lib.OthersKept 5 (some b) w w') := Any.Builder_String_any_k Tryz.lays169 Tryz.Builder_Extra_169 B b l w h hBw
def Tryz.lays129_ren : Go.Shelf.Ren := ⟨fun | 129 => 46 | n => n, fun | 53 => 26 | 3 => 3 | 4 => 4 | 46 => 224 | 5 => 5 | 9 => 9 | n => n, fun | n => n⟩
theorem Tryz.lays129 : Go.Proofs.Lays.n129 Tryz.prog Tryz.lays129_ren := {
  mixed := by kernel_rfl
  f129 := Tryz.func46.trans (congrArg some (by kernel_rfl))
  t3 := Tryz.underlying3
  a3 := Tryz.isAgg3
  z3 := Tryz.sizeOf3
  v3 := Tryz.zeroValue3
  t4 := Tryz.underlying4
  a4 := Tryz.isAgg4
  z4 := Tryz.sizeOf4
  v4 := Tryz.zeroValue4
  t5 := Tryz.underlying5
  a5 := Tryz.isAgg5
  z5 := Tryz.sizeOf5
  v5 := Tryz.zeroValue5
  t9 := Tryz.underlying9
  a9 := Tryz.isAgg9
  z9 := Tryz.sizeOf9
  v9 := Tryz.zeroValue9
  t46 := Tryz.underlying224
  a46 := Tryz.isAgg224
  z46 := Tryz.sizeOf224
  v46 := Tryz.zeroValue224
  t53 := Tryz.underlying26
  a53 := Tryz.isAgg26
  z53 := Tryz.sizeOf26
  v53 := Tryz.zeroValue26 }
/-- bits.Len64: "Len64 returns the minimum number of bits required to represent x; the result is 0 for x == 0.": IT RETURNS 'Lib.bitLen x'; the world is as it was. ('h0', 'h1': x is a uint64.) (LAID: no walk: one application.) -/
theorem Tryz.bits_Len64 (x : Int) (w : World) (h0 : 0 ≤ x) (h1 : x ≤ 18446744073709551615) :
    Calls Tryz.prog 46 #[.int .u64 x] w fun e w' => e = .returned (.int .i64 (Lib.bitLen x.toNat)) ∧ w' = w := Any.bits_Len64 Tryz.lays129 x w h0 h1
def Tryz.lays217_ren : Go.Shelf.Ren := ⟨fun | 217 => 171 | 266 => 172 | n => n, fun | 9 => 9 | 5 => 5 | 3 => 3 | n => n, fun | n => n⟩
theorem Tryz.lays217 : Go.Proofs.Lays.n217 Tryz.prog Tryz.lays217_ren := {
  mixed := by kernel_rfl
  f217 := Tryz.func171.trans (congrArg some (by kernel_rfl))
  f266 := Tryz.func172.trans (congrArg some (by kernel_rfl))
  t3 := Tryz.underlying3
  a3 := Tryz.isAgg3
  z3 := Tryz.sizeOf3
  v3 := Tryz.zeroValue3
  t5 := Tryz.underlying5
  a5 := Tryz.isAgg5
  z5 := Tryz.sizeOf5
  v5 := Tryz.zeroValue5
  t9 := Tryz.underlying9
  a9 := Tryz.isAgg9
  z9 := Tryz.sizeOf9
  v9 := Tryz.zeroValue9 }
open Go.RowKit Go.Lib in
/-- internal/stringslite.IndexByte (what strings.IndexByte calls): IT RETURNS 'Lib.indexByte s c'; the world is as it was. (LAID: no walk: one application.) -/
theorem Tryz.stringslite_IndexByte (s : ByteArray) (c : Int) (w : World) :
    Calls Tryz.prog 171 #[.string s, .int .u8 c] w fun e w' => e = .returned (.int .i64 (Lib.indexByte s.data.toList c.toNat.toUInt8)) ∧ w' = w := Any.stringslite_IndexByte Tryz.lays217 s c w
def Tryz.laysGt33_ren : Go.Shelf.Ren := ⟨fun | 33 => 47 | n => n, fun | 45 => 221 | 3 => 3 | 4 => 4 | 0 => 0 | 43 => 222 | 26 => 246 | 38 => 259 | n => n, fun | n => n⟩
theorem Tryz.laysGt33 : Go.Proofs.LaysGt.n33 Tryz.prog Tryz.laysGt33_ren := {
  mixed := by kernel_rfl
  f33 := Tryz.func47.trans (congrArg some (by kernel_rfl))
  t0 := Tryz.underlying0
  a0 := Tryz.isAgg0
  z0 := Tryz.sizeOf0
  v0 := Tryz.zeroValue0
  i0 := by kernel_rfl
  t3 := Tryz.underlying3
  a3 := Tryz.isAgg3
  z3 := Tryz.sizeOf3
  v3 := Tryz.zeroValue3
  i3 := by kernel_rfl
  t4 := Tryz.underlying4
  a4 := Tryz.isAgg4
  z4 := Tryz.sizeOf4
  v4 := Tryz.zeroValue4
  i4 := by kernel_rfl
  t26 := Tryz.underlying246
  a26 := Tryz.isAgg246
  z26 := Tryz.sizeOf246
  v26 := Tryz.zeroValue246
  i26 := by kernel_rfl
  t38 := Tryz.underlying259
  a38 := Tryz.isAgg259
  z38 := Tryz.sizeOf259
  v38 := Tryz.zeroValue259
  i38 := by kernel_rfl
  t43 := Tryz.underlying222
  a43 := Tryz.isAgg222
  z43 := Tryz.sizeOf222
  v43 := Tryz.zeroValue222
  i43 := by kernel_rfl
  t45 := Tryz.underlying221
  a45 := Tryz.isAgg221
  z45 := Tryz.sizeOf221
  v45 := Tryz.zeroValue221
  i45 := by kernel_rfl }
open Go.RowKit Go.Lib Go.Sort in
theorem Tryz.insertionSort_iface {α : Type} [Inhabited α] (T : TypeId) (rv : Value) (gl gs : Nat) (rL : Reaches Tryz.prog T rv "Less" gl) (rS : Reaches Tryz.prog T rv "Swap" gs) (enc : α → Value) (lt : α → α → Bool) (blk off a b : Nat) (d : Array α) (w : World) (hless : LessM Tryz.prog gl rv enc lt blk off d.size w) (hswap : SwapM Tryz.prog gs rv enc blk off d.size) (hH : Holds enc w blk off d) (hab : a ≤ b) (hb : b ≤ d.size) (hsz : d.size < 4611686018427387904) :
    Calls Tryz.prog 47 #[.iface T rv, .int .i64 a, .int .i64 b] w fun e w' =>
      e = .returned (.tuple #[]) ∧ ∃ n, w' = putRow enc (Sort.ahead w n) blk off (Sort.insertionSort lt d a b) := Any.insertionSort_iface Tryz.laysGt33 T rv gl gs rL rS enc lt blk off a b d w hless hswap hH hab hb hsz
open Go.RowKit Go.Lib Go.Sort in
/-- sort.insertionSort, from a world to a 'sortWorld' of it. (LAID: no walk: one application.) -/
theorem Tryz.insertionSort_iface_w {α : Type} [Inhabited α] (T : TypeId) (rv : Value) (gl gs : Nat) (rL : Reaches Tryz.prog T rv "Less" gl) (rS : Reaches Tryz.prog T rv "Swap" gs) (enc : α → Value) (lt : α → α → Bool) (blk off a b : Nat) (d : Array α) (w : World) (hless : LessM Tryz.prog gl rv enc lt blk off d.size w) (hswap : SwapM Tryz.prog gs rv enc blk off d.size) (hH : Holds enc w blk off d) (hab : a ≤ b) (hb : b ≤ d.size) (hsz : d.size < 4611686018427387904) :
    Calls Tryz.prog 47 #[.iface T rv, .int .i64 a, .int .i64 b] w fun e w' => e = .returned (.tuple #[]) ∧ ∃ n os, w' = sortWorld enc w blk off n (Sort.insertionSort lt d a b) os := Any.insertionSort_iface_w Tryz.laysGt33 T rv gl gs rL rS enc lt blk off a b d w hless hswap hH hab hb hsz
def Tryz.laysGt37_ren : Go.Shelf.Ren := ⟨fun | 37 => 51 | n => n, fun | 45 => 221 | 3 => 3 | 4 => 4 | 0 => 0 | 43 => 222 | 26 => 246 | 38 => 259 | n => n, fun | n => n⟩
theorem Tryz.laysGt37 : Go.Proofs.LaysGt.n37 Tryz.prog Tryz.laysGt37_ren := {
  mixed := by kernel_rfl
  f37 := Tryz.func51.trans (congrArg some (by kernel_rfl))
  t0 := Tryz.underlying0
  a0 := Tryz.isAgg0
  z0 := Tryz.sizeOf0
  v0 := Tryz.zeroValue0
  i0 := by kernel_rfl
  t3 := Tryz.underlying3
  a3 := Tryz.isAgg3
  z3 := Tryz.sizeOf3
  v3 := Tryz.zeroValue3
  i3 := by kernel_rfl
  t4 := Tryz.underlying4
  a4 := Tryz.isAgg4
  z4 := Tryz.sizeOf4
  v4 := Tryz.zeroValue4
  i4 := by kernel_rfl
  t26 := Tryz.underlying246
  a26 := Tryz.isAgg246
  z26 := Tryz.sizeOf246
  v26 := Tryz.zeroValue246
  i26 := by kernel_rfl
  t38 := Tryz.underlying259
  a38 := Tryz.isAgg259
  z38 := Tryz.sizeOf259
  v38 := Tryz.zeroValue259
  i38 := by kernel_rfl
  t43 := Tryz.underlying222
  a43 := Tryz.isAgg222
  z43 := Tryz.sizeOf222
  v43 := Tryz.zeroValue222
  i43 := by kernel_rfl
  t45 := Tryz.underlying221
  a45 := Tryz.isAgg221
  z45 := Tryz.sizeOf221
  v45 := Tryz.zeroValue221
  i45 := by kernel_rfl }
open Go.RowKit Go.Lib Go.Sort in
theorem Tryz.reverseRange_iface {α : Type} [Inhabited α] (T : TypeId) (rv : Value) (gs : Nat) (rS : Reaches Tryz.prog T rv "Swap" gs) (enc : α → Value) (blk off a b : Nat) (d : Array α) (w : World) (hswap : SwapM Tryz.prog gs rv enc blk off d.size) (hH : Holds enc w blk off d) (hab : a ≤ b) (hb : b ≤ d.size) (hsz : d.size < 4611686018427387904) :
    Calls Tryz.prog 51 #[.iface T rv, .int .i64 a, .int .i64 b] w fun e w' => e = .returned (.tuple #[]) ∧ ∃ n, w' = putRow enc (Sort.ahead w n) blk off (reverseRange d a b) := Any.reverseRange_iface Tryz.laysGt37 T rv gs rS enc blk off a b d w hswap hH hab hb hsz
open Go.RowKit Go.Lib Go.Sort in
theorem Tryz.reverseRange_iface_w {α : Type} [Inhabited α] (T : TypeId) (rv : Value) (gs : Nat) (rS : Reaches Tryz.prog T rv "Swap" gs) (enc : α → Value) (blk off a b : Nat) (d : Array α) (w : World) (hswap : SwapM Tryz.prog gs rv enc blk off d.size) (hH : Holds enc w blk off d) (hab : a ≤ b) (hb : b ≤ d.size) (hsz : d.size < 4611686018427387904) :
    Calls Tryz.prog 51 #[.iface T rv, .int .i64 a, .int .i64 b] w fun e w' => e = .returned (.tuple #[]) ∧ ∃ n os, w' = sortWorld enc w blk off n (reverseRange d a b) os := Any.reverseRange_iface_w Tryz.laysGt37 T rv gs rS enc blk off a b d w hswap hH hab hb hsz
def Tryz.laysGt50_ren : Go.Shelf.Ren := ⟨fun | 50 => 82 | n => n, fun | 45 => 221 | 3 => 3 | 71 => 264 | 4 => 4 | 0 => 0 | 43 => 222 | 26 => 246 | 38 => 259 | n => n, fun | n => n⟩
theorem Tryz.laysGt50 : Go.Proofs.LaysGt.n50 Tryz.prog Tryz.laysGt50_ren := {
  mixed := by kernel_rfl
  f50 := Tryz.func82.trans (congrArg some (by kernel_rfl))
  t0 := Tryz.underlying0
  a0 := Tryz.isAgg0
  z0 := Tryz.sizeOf0
  v0 := Tryz.zeroValue0
  i0 := by kernel_rfl
  t3 := Tryz.underlying3
  a3 := Tryz.isAgg3
  z3 := Tryz.sizeOf3
  v3 := Tryz.zeroValue3
  i3 := by kernel_rfl
  t4 := Tryz.underlying4
  a4 := Tryz.isAgg4
  z4 := Tryz.sizeOf4
  v4 := Tryz.zeroValue4
  i4 := by kernel_rfl
  t26 := Tryz.underlying246
  a26 := Tryz.isAgg246
  z26 := Tryz.sizeOf246
  v26 := Tryz.zeroValue246
  i26 := by kernel_rfl
  t38 := Tryz.underlying259
  a38 := Tryz.isAgg259
  z38 := Tryz.sizeOf259
  v38 := Tryz.zeroValue259
  i38 := by kernel_rfl
  t43 := Tryz.underlying222
  a43 := Tryz.isAgg222
  z43 := Tryz.sizeOf222
  v43 := Tryz.zeroValue222
  i43 := by kernel_rfl
  t45 := Tryz.underlying221
  a45 := Tryz.isAgg221
  z45 := Tryz.sizeOf221
  v45 := Tryz.zeroValue221
  i45 := by kernel_rfl
  t71 := Tryz.underlying264
  a71 := Tryz.isAgg264
  z71 := Tryz.sizeOf264
  v71 := Tryz.zeroValue264
  i71 := by kernel_rfl }
open Go.RowKit Go.Lib Go.Sort in
theorem Tryz.order2_iface {α : Type} [Inhabited α] (T : TypeId) (rv : Value) (gl : Nat) (rL : Reaches Tryz.prog T rv "Less" gl) (enc : α → Value) (lt : α → α → Bool) (blk off : Nat) (w0 W : World) (d : Array α) (a b cb co s : Nat) (hL : LessM Tryz.prog gl rv enc lt blk off d.size w0) (hW : SW enc w0 blk off d W) (ha : a < d.size) (hb : b < d.size) (hS : Holds (Value.int .i64) W cb co (one s)) (hs : s < 4611686018427387904) :
    Calls Tryz.prog 82 #[.iface T rv, .int .i64 a, .int .i64 b, .pointer (some ⟨cb, co, none⟩)] W fun e w' =>
      e = .returned (.tuple #[.int .i64 (order2 lt d a b s).1, .int .i64 (order2 lt d a b s).2.1]) ∧ ∃ n os, w' = sortWorld (Value.int .i64) W cb co n (one (order2 lt d a b s).2.2) os := Any.order2_iface Tryz.laysGt50 T rv gl rL enc lt blk off w0 W d a b cb co s hL hW ha hb hS hs
def Tryz.laysGt47_ren : Go.Shelf.Ren := ⟨fun | 47 => 69 | 50 => 82 | n => n, fun | 45 => 221 | 3 => 3 | 71 => 264 | 74 => 275 | 4 => 4 | 0 => 0 | 43 => 222 | 26 => 246 | 38 => 259 | n => n, fun | n => n⟩
theorem Tryz.laysGt47 : Go.Proofs.LaysGt.n47 Tryz.prog Tryz.laysGt47_ren := {
  mixed := by kernel_rfl
  f47 := Tryz.func69.trans (congrArg some (by kernel_rfl))
  f50 := Tryz.func82.trans (congrArg some (by kernel_rfl))
  t0 := Tryz.underlying0
  a0 := Tryz.isAgg0
  z0 := Tryz.sizeOf0
  v0 := Tryz.zeroValue0
  i0 := by kernel_rfl
  t3 := Tryz.underlying3
  a3 := Tryz.isAgg3
  z3 := Tryz.sizeOf3
  v3 := Tryz.zeroValue3
  i3 := by kernel_rfl
  t4 := Tryz.underlying4
  a4 := Tryz.isAgg4
  z4 := Tryz.sizeOf4
  v4 := Tryz.zeroValue4
  i4 := by kernel_rfl
  t26 := Tryz.underlying246
  a26 := Tryz.isAgg246
  z26 := Tryz.sizeOf246
  v26 := Tryz.zeroValue246
  i26 := by kernel_rfl
  t38 := Tryz.underlying259
  a38 := Tryz.isAgg259
  z38 := Tryz.sizeOf259
  v38 := Tryz.zeroValue259
  i38 := by kernel_rfl
  t43 := Tryz.underlying222
  a43 := Tryz.isAgg222
  z43 := Tryz.sizeOf222
  v43 := Tryz.zeroValue222
  i43 := by kernel_rfl
  t45 := Tryz.underlying221
  a45 := Tryz.isAgg221
  z45 := Tryz.sizeOf221
  v45 := Tryz.zeroValue221
  i45 := by kernel_rfl
  t71 := Tryz.underlying264
  a71 := Tryz.isAgg264
  z71 := Tryz.sizeOf264
  v71 := Tryz.zeroValue264
  i71 := by kernel_rfl
  t74 := Tryz.underlying275
  a74 := Tryz.isAgg275
  z74 := Tryz.sizeOf275
  v74 := Tryz.zeroValue275
  i74 := by kernel_rfl }
open Go.RowKit Go.Lib Go.Sort in
theorem Tryz.median_iface {α : Type} [Inhabited α] (T : TypeId) (rv : Value) (gl : Nat) (rL : Reaches Tryz.prog T rv "Less" gl) (enc : α → Value) (lt : α → α → Bool) (blk off : Nat) (w0 W : World) (d : Array α) (a b c cb co s : Nat) (hL : LessM Tryz.prog gl rv enc lt blk off d.size w0) (hW : SW enc w0 blk off d W) (ha : a < d.size) (hb : b < d.size) (hc : c < d.size) (hS : Holds (Value.int .i64) W cb co (one s)) (hcb0 : w0.heap.size ≤ cb) (hcb : cb < W.heap.size) (hs : s + 3 < 4611686018427387904) :
    Calls Tryz.prog 69 #[.iface T rv, .int .i64 a, .int .i64 b, .int .i64 c, .pointer (some ⟨cb, co, none⟩)] W fun e w' =>
      e = .returned (.int .i64 (median lt d a b c s).1) ∧ ∃ n os, w' = sortWorld (Value.int .i64) W cb co n (one (median lt d a b c s).2) os := Any.median_iface Tryz.laysGt47 T rv gl rL enc lt blk off w0 W d a b c cb co s hL hW ha hb hc hS hcb0 hcb hs
def Tryz.laysGt46_ren : Go.Shelf.Ren := ⟨fun | 46 => 68 | 47 => 69 | 50 => 82 | n => n, fun | 45 => 221 | 3 => 3 | 71 => 264 | 74 => 275 | 4 => 4 | 0 => 0 | 43 => 222 | 26 => 246 | 38 => 259 | n => n, fun | n => n⟩
theorem Tryz.laysGt46 : Go.Proofs.LaysGt.n46 Tryz.prog Tryz.laysGt46_ren := {
  mixed := by kernel_rfl
  f46 := Tryz.func68.trans (congrArg some (by kernel_rfl))
  f47 := Tryz.func69.trans (congrArg some (by kernel_rfl))
  f50 := Tryz.func82.trans (congrArg some (by kernel_rfl))
  t0 := Tryz.underlying0
  a0 := Tryz.isAgg0
  z0 := Tryz.sizeOf0
  v0 := Tryz.zeroValue0
  i0 := by kernel_rfl
  t3 := Tryz.underlying3
  a3 := Tryz.isAgg3
  z3 := Tryz.sizeOf3
  v3 := Tryz.zeroValue3
  i3 := by kernel_rfl
  t4 := Tryz.underlying4
  a4 := Tryz.isAgg4
  z4 := Tryz.sizeOf4
  v4 := Tryz.zeroValue4
  i4 := by kernel_rfl
  t26 := Tryz.underlying246
  a26 := Tryz.isAgg246
  z26 := Tryz.sizeOf246
  v26 := Tryz.zeroValue246
  i26 := by kernel_rfl
  t38 := Tryz.underlying259
  a38 := Tryz.isAgg259
  z38 := Tryz.sizeOf259
  v38 := Tryz.zeroValue259
  i38 := by kernel_rfl
  t43 := Tryz.underlying222
  a43 := Tryz.isAgg222
  z43 := Tryz.sizeOf222
  v43 := Tryz.zeroValue222
  i43 := by kernel_rfl
  t45 := Tryz.underlying221
  a45 := Tryz.isAgg221
  z45 := Tryz.sizeOf221
  v45 := Tryz.zeroValue221
  i45 := by kernel_rfl
  t71 := Tryz.underlying264
  a71 := Tryz.isAgg264
  z71 := Tryz.sizeOf264
  v71 := Tryz.zeroValue264
  i71 := by kernel_rfl
  t74 := Tryz.underlying275
  a74 := Tryz.isAgg275
  z74 := Tryz.sizeOf275
  v74 := Tryz.zeroValue275
  i74 := by kernel_rfl }
open Go.RowKit Go.Lib Go.Sort in
theorem Tryz.medianAdjacent_iface {α : Type} [Inhabited α] (T : TypeId) (rv : Value) (gl : Nat) (rL : Reaches Tryz.prog T rv "Less" gl) (enc : α → Value) (lt : α → α → Bool) (blk off : Nat) (w0 W : World) (d : Array α) (a cb co s : Nat) (hL : LessM Tryz.prog gl rv enc lt blk off d.size w0) (hW : SW enc w0 blk off d W) (ha1 : 1 ≤ a) (ha2 : a + 1 < d.size) (hsz : d.size < 4611686018427387904) (hS : Holds (Value.int .i64) W cb co (one s)) (hcb0 : w0.heap.size ≤ cb) (hcb : cb < W.heap.size) (hs : s + 3 < 4611686018427387904) :
    Calls Tryz.prog 68 #[.iface T rv, .int .i64 a, .pointer (some ⟨cb, co, none⟩)] W fun e w' =>
      e = .returned (.int .i64 (medianAdjacent lt d a s).1) ∧ ∃ n os, w' = sortWorld (Value.int .i64) W cb co n (one (medianAdjacent lt d a s).2) os := Any.medianAdjacent_iface Tryz.laysGt46 T rv gl rL enc lt blk off w0 W d a cb co s hL hW ha1 ha2 hsz hS hcb0 hcb hs
def Tryz.laysGt36_ren : Go.Shelf.Ren := ⟨fun | 36 => 50 | 46 => 68 | 47 => 69 | 50 => 82 | n => n, fun | 45 => 221 | 3 => 3 | 60 => 242 | 0 => 0 | 4 => 4 | 71 => 264 | 74 => 275 | 43 => 222 | 26 => 246 | 38 => 259 | n => n, fun | n => n⟩
theorem Tryz.laysGt36 : Go.Proofs.LaysGt.n36 Tryz.prog Tryz.laysGt36_ren := {
  mixed := by kernel_rfl
  f36 := Tryz.func50.trans (congrArg some (by kernel_rfl))
  f46 := Tryz.func68.trans (congrArg some (by kernel_rfl))
  f47 := Tryz.func69.trans (congrArg some (by kernel_rfl))
  f50 := Tryz.func82.trans (congrArg some (by kernel_rfl))
  t0 := Tryz.underlying0
  a0 := Tryz.isAgg0
  z0 := Tryz.sizeOf0
  v0 := Tryz.zeroValue0
  i0 := by kernel_rfl
  t3 := Tryz.underlying3
  a3 := Tryz.isAgg3
  z3 := Tryz.sizeOf3
  v3 := Tryz.zeroValue3
  i3 := by kernel_rfl
  t4 := Tryz.underlying4
  a4 := Tryz.isAgg4
  z4 := Tryz.sizeOf4
  v4 := Tryz.zeroValue4
  i4 := by kernel_rfl
  t26 := Tryz.underlying246
  a26 := Tryz.isAgg246
  z26 := Tryz.sizeOf246
  v26 := Tryz.zeroValue246
  i26 := by kernel_rfl
  t38 := Tryz.underlying259
  a38 := Tryz.isAgg259
  z38 := Tryz.sizeOf259
  v38 := Tryz.zeroValue259
  i38 := by kernel_rfl
  t43 := Tryz.underlying222
  a43 := Tryz.isAgg222
  z43 := Tryz.sizeOf222
  v43 := Tryz.zeroValue222
  i43 := by kernel_rfl
  t45 := Tryz.underlying221
  a45 := Tryz.isAgg221
  z45 := Tryz.sizeOf221
  v45 := Tryz.zeroValue221
  i45 := by kernel_rfl
  t60 := Tryz.underlying242
  a60 := Tryz.isAgg242
  z60 := Tryz.sizeOf242
  v60 := Tryz.zeroValue242
  i60 := by kernel_rfl
  t71 := Tryz.underlying264
  a71 := Tryz.isAgg264
  z71 := Tryz.sizeOf264
  v71 := Tryz.zeroValue264
  i71 := by kernel_rfl
  t74 := Tryz.underlying275
  a74 := Tryz.isAgg275
  z74 := Tryz.sizeOf275
  v74 := Tryz.zeroValue275
  i74 := by kernel_rfl }
open Go.RowKit Go.Lib Go.Sort in
/-- sort.choosePivot (zsortinterface.go): THE LIBRARY's OWN TEXT COMPUTES 'Sort.choosePivot lt d a b'; the row is not turned; W is grown. (Derived/Shelf/GgSortFunc/Pivot.lean's text, turned by program.) (LAID: no walk: one application.) -/
theorem Tryz.choosePivot_iface {α : Type} [Inhabited α] (T : TypeId) (rv : Value) (gl : Nat) (rL : Reaches Tryz.prog T rv "Less" gl) (enc : α → Value) (lt : α → α → Bool) (blk off a b : Nat) (W : World) (d : Array α) (hless : LessM Tryz.prog gl rv enc lt blk off d.size W) (hH : Holds enc W blk off d) (hab : a < b) (hb : b ≤ d.size) (hsz : d.size < 4611686018427387904) :
    Calls Tryz.prog 50 #[.iface T rv, .int .i64 a, .int .i64 b] W fun e w' =>
      e = .returned (.tuple #[.int .i64 (choosePivot lt d a b).1, .int .i64 (hintCode (choosePivot lt d a b).2)]) ∧ ∃ n os, w' = grow (Sort.ahead W n) os := Any.choosePivot_iface Tryz.laysGt36 T rv gl rL enc lt blk off a b W d hless hH hab hb hsz
def Tryz.laysGt39_ren : Go.Shelf.Ren := ⟨fun | 39 => 53 | n => n, fun | 45 => 221 | 3 => 3 | 0 => 0 | 4 => 4 | 43 => 222 | 26 => 246 | 38 => 259 | n => n, fun | n => n⟩
theorem Tryz.laysGt39 : Go.Proofs.LaysGt.n39 Tryz.prog Tryz.laysGt39_ren := {
  mixed := by kernel_rfl
  f39 := Tryz.func53.trans (congrArg some (by kernel_rfl))
  t0 := Tryz.underlying0
  a0 := Tryz.isAgg0
  z0 := Tryz.sizeOf0
  v0 := Tryz.zeroValue0
  i0 := by kernel_rfl
  t3 := Tryz.underlying3
  a3 := Tryz.isAgg3
  z3 := Tryz.sizeOf3
  v3 := Tryz.zeroValue3
  i3 := by kernel_rfl
  t4 := Tryz.underlying4
  a4 := Tryz.isAgg4
  z4 := Tryz.sizeOf4
  v4 := Tryz.zeroValue4
  i4 := by kernel_rfl
  t26 := Tryz.underlying246
  a26 := Tryz.isAgg246
  z26 := Tryz.sizeOf246
  v26 := Tryz.zeroValue246
  i26 := by kernel_rfl
  t38 := Tryz.underlying259
  a38 := Tryz.isAgg259
  z38 := Tryz.sizeOf259
  v38 := Tryz.zeroValue259
  i38 := by kernel_rfl
  t43 := Tryz.underlying222
  a43 := Tryz.isAgg222
  z43 := Tryz.sizeOf222
  v43 := Tryz.zeroValue222
  i43 := by kernel_rfl
  t45 := Tryz.underlying221
  a45 := Tryz.isAgg221
  z45 := Tryz.sizeOf221
  v45 := Tryz.zeroValue221
  i45 := by kernel_rfl }
open Go.RowKit Go.Lib Go.Sort in
theorem Tryz.partitionEqual_iface {α : Type} [Inhabited α] (T : TypeId) (rv : Value) (gl gs : Nat) (rL : Reaches Tryz.prog T rv "Less" gl) (rS : Reaches Tryz.prog T rv "Swap" gs) (enc : α → Value) (lt : α → α → Bool) (blk off a b pivot : Nat) (d : Array α) (W : World) (hless : LessM Tryz.prog gl rv enc lt blk off d.size W) (hswap : SwapM Tryz.prog gs rv enc blk off d.size) (hH : Holds enc W blk off d) (hap : a ≤ pivot) (hpb : pivot < b) (hb : b ≤ d.size) (hsz : d.size < 4611686018427387904) :
    Calls Tryz.prog 53 #[.iface T rv, .int .i64 a, .int .i64 b, .int .i64 pivot] W fun e w' =>
      e = .returned (.int .i64 (Sort.partitionEqual lt d a b pivot).1) ∧ ∃ n, w' = (putRow enc W blk off (Sort.partitionEqual lt d a b pivot).2).drewN n := Any.partitionEqual_iface Tryz.laysGt39 T rv gl gs rL rS enc lt blk off a b pivot d W hless hswap hH hap hpb hb hsz
def Tryz.laysGt40_ren : Go.Shelf.Ren := ⟨fun | 40 => 54 | n => n, fun | 45 => 221 | 3 => 3 | 4 => 4 | 0 => 0 | 43 => 222 | 26 => 246 | 38 => 259 | n => n, fun | n => n⟩
theorem Tryz.laysGt40 : Go.Proofs.LaysGt.n40 Tryz.prog Tryz.laysGt40_ren := {
  mixed := by kernel_rfl
  f40 := Tryz.func54.trans (congrArg some (by kernel_rfl))
  t0 := Tryz.underlying0
  a0 := Tryz.isAgg0
  z0 := Tryz.sizeOf0
  v0 := Tryz.zeroValue0
  i0 := by kernel_rfl
  t3 := Tryz.underlying3
  a3 := Tryz.isAgg3
  z3 := Tryz.sizeOf3
  v3 := Tryz.zeroValue3
  i3 := by kernel_rfl
  t4 := Tryz.underlying4
  a4 := Tryz.isAgg4
  z4 := Tryz.sizeOf4
  v4 := Tryz.zeroValue4
  i4 := by kernel_rfl
  t26 := Tryz.underlying246
  a26 := Tryz.isAgg246
  z26 := Tryz.sizeOf246
  v26 := Tryz.zeroValue246
  i26 := by kernel_rfl
  t38 := Tryz.underlying259
  a38 := Tryz.isAgg259
  z38 := Tryz.sizeOf259
  v38 := Tryz.zeroValue259
  i38 := by kernel_rfl
  t43 := Tryz.underlying222
  a43 := Tryz.isAgg222
  z43 := Tryz.sizeOf222
  v43 := Tryz.zeroValue222
  i43 := by kernel_rfl
  t45 := Tryz.underlying221
  a45 := Tryz.isAgg221
  z45 := Tryz.sizeOf221
  v45 := Tryz.zeroValue221
  i45 := by kernel_rfl }
open Go.RowKit Go.Lib Go.Sort in
theorem Tryz.partition_iface {α : Type} [Inhabited α] (T : TypeId) (rv : Value) (gl gs : Nat) (rL : Reaches Tryz.prog T rv "Less" gl) (rS : Reaches Tryz.prog T rv "Swap" gs) (enc : α → Value) (lt : α → α → Bool) (blk off a b pivot : Nat) (d : Array α) (W : World) (hless : LessM Tryz.prog gl rv enc lt blk off d.size W) (hswap : SwapM Tryz.prog gs rv enc blk off d.size) (hH : Holds enc W blk off d) (hap : a ≤ pivot) (hpb : pivot < b) (hb : b ≤ d.size) (hsz : d.size < 4611686018427387904) :
    Calls Tryz.prog 54 #[.iface T rv, .int .i64 a, .int .i64 b, .int .i64 pivot] W fun e w' =>
      e = .returned (.tuple #[.int .i64 (Sort.partition lt d a b pivot).1, .bool (Sort.partition lt d a b pivot).2.1]) ∧ ∃ n, w' = (putRow enc W blk off (Sort.partition lt d a b pivot).2.2).drewN n := Any.partition_iface Tryz.laysGt40 T rv gl gs rL rS enc lt blk off a b pivot d W hless hswap hH hap hpb hb hsz
open Go.RowKit Go.Lib Go.Sort in
theorem Tryz.partitionEqual_iface_w {α : Type} [Inhabited α] (T : TypeId) (rv : Value) (gl gs : Nat) (rL : Reaches Tryz.prog T rv "Less" gl) (rS : Reaches Tryz.prog T rv "Swap" gs) (enc : α → Value) (lt : α → α → Bool) (blk off a b pivot : Nat) (d : Array α) (W : World) (hless : LessM Tryz.prog gl rv enc lt blk off d.size W) (hswap : SwapM Tryz.prog gs rv enc blk off d.size) (hH : Holds enc W blk off d) (hap : a ≤ pivot) (hpb : pivot < b) (hb : b ≤ d.size) (hsz : d.size < 4611686018427387904) :
    Calls Tryz.prog 53 #[.iface T rv, .int .i64 a, .int .i64 b, .int .i64 pivot] W fun e w' => e = .returned (.int .i64 (Sort.partitionEqual lt d a b pivot).1) ∧ ∃ n os, w' = sortWorld enc W blk off n (Sort.partitionEqual lt d a b pivot).2 os := Any.partitionEqual_iface_w Tryz.laysGt39 T rv gl gs rL rS enc lt blk off a b pivot d W hless hswap hH hap hpb hb hsz
open Go.RowKit Go.Lib Go.Sort in
theorem Tryz.partition_iface_w {α : Type} [Inhabited α] (T : TypeId) (rv : Value) (gl gs : Nat) (rL : Reaches Tryz.prog T rv "Less" gl) (rS : Reaches Tryz.prog T rv "Swap" gs) (enc : α → Value) (lt : α → α → Bool) (blk off a b pivot : Nat) (d : Array α) (W : World) (hless : LessM Tryz.prog gl rv enc lt blk off d.size W) (hswap : SwapM Tryz.prog gs rv enc blk off d.size) (hH : Holds enc W blk off d) (hap : a ≤ pivot) (hpb : pivot < b) (hb : b ≤ d.size) (hsz : d.size < 4611686018427387904) :
    Calls Tryz.prog 54 #[.iface T rv, .int .i64 a, .int .i64 b, .int .i64 pivot] W fun e w' => e = .returned (.tuple #[.int .i64 (Sort.partition lt d a b pivot).1, .bool (Sort.partition lt d a b pivot).2.1]) ∧ ∃ n os, w' = sortWorld enc W blk off n (Sort.partition lt d a b pivot).2.2 os := Any.partition_iface_w Tryz.laysGt40 T rv gl gs rL rS enc lt blk off a b pivot d W hless hswap hH hap hpb hb hsz
def Tryz.laysGt18_ren : Go.Shelf.Ren := ⟨fun | 18 => 39 | 33 => 47 | 34 => 48 | 35 => 49 | 36 => 50 | 37 => 51 | 38 => 52 | 39 => 53 | 40 => 54 | 43 => 65 | 44 => 66 | 45 => 67 | 46 => 68 | 47 => 69 | 17 => 38 | 50 => 82 | 31 => 45 | 32 => 46 | n => n, fun | 45 => 221 | 3 => 3 | 4 => 4 | 0 => 0 | 61 => 243 | 60 => 242 | 65 => 248 | 67 => 260 | 47 => 224 | 58 => 26 | 71 => 264 | 73 => 274 | 74 => 275 | 56 => 34 | 5 => 5 | 9 => 9 | 43 => 222 | 26 => 246 | 38 => 259 | n => n, fun | n => n⟩
theorem Tryz.laysGt18 : Go.Proofs.LaysGt.n18 Tryz.prog Tryz.laysGt18_ren := {
  mixed := by kernel_rfl
  f17 := Tryz.func38.trans (congrArg some (by kernel_rfl))
  f18 := Tryz.func39.trans (congrArg some (by kernel_rfl))
  f31 := Tryz.func45.trans (congrArg some (by kernel_rfl))
  f32 := Tryz.func46.trans (congrArg some (by kernel_rfl))
  f33 := Tryz.func47.trans (congrArg some (by kernel_rfl))
  f34 := Tryz.func48.trans (congrArg some (by kernel_rfl))
  f35 := Tryz.func49.trans (congrArg some (by kernel_rfl))
  f36 := Tryz.func50.trans (congrArg some (by kernel_rfl))
  f37 := Tryz.func51.trans (congrArg some (by kernel_rfl))
  f38 := Tryz.func52.trans (congrArg some (by kernel_rfl))
  f39 := Tryz.func53.trans (congrArg some (by kernel_rfl))
  f40 := Tryz.func54.trans (congrArg some (by kernel_rfl))
  f43 := Tryz.func65.trans (congrArg some (by kernel_rfl))
  f44 := Tryz.func66.trans (congrArg some (by kernel_rfl))
  f45 := Tryz.func67.trans (congrArg some (by kernel_rfl))
  f46 := Tryz.func68.trans (congrArg some (by kernel_rfl))
  f47 := Tryz.func69.trans (congrArg some (by kernel_rfl))
  f50 := Tryz.func82.trans (congrArg some (by kernel_rfl))
  t0 := Tryz.underlying0
  a0 := Tryz.isAgg0
  z0 := Tryz.sizeOf0
  v0 := Tryz.zeroValue0
  i0 := by kernel_rfl
  t3 := Tryz.underlying3
  a3 := Tryz.isAgg3
  z3 := Tryz.sizeOf3
  v3 := Tryz.zeroValue3
  i3 := by kernel_rfl
  t4 := Tryz.underlying4
  a4 := Tryz.isAgg4
  z4 := Tryz.sizeOf4
  v4 := Tryz.zeroValue4
  i4 := by kernel_rfl
  t5 := Tryz.underlying5
  a5 := Tryz.isAgg5
  z5 := Tryz.sizeOf5
  v5 := Tryz.zeroValue5
  i5 := by kernel_rfl
  t9 := Tryz.underlying9
  a9 := Tryz.isAgg9
  z9 := Tryz.sizeOf9
  v9 := Tryz.zeroValue9
  i9 := by kernel_rfl
  t26 := Tryz.underlying246
  a26 := Tryz.isAgg246
  z26 := Tryz.sizeOf246
  v26 := Tryz.zeroValue246
  i26 := by kernel_rfl
  t38 := Tryz.underlying259
  a38 := Tryz.isAgg259
  z38 := Tryz.sizeOf259
  v38 := Tryz.zeroValue259
  i38 := by kernel_rfl
  t43 := Tryz.underlying222
  a43 := Tryz.isAgg222
  z43 := Tryz.sizeOf222
  v43 := Tryz.zeroValue222
  i43 := by kernel_rfl
  t45 := Tryz.underlying221
  a45 := Tryz.isAgg221
  z45 := Tryz.sizeOf221
  v45 := Tryz.zeroValue221
  i45 := by kernel_rfl
  t47 := Tryz.underlying224
  a47 := Tryz.isAgg224
  z47 := Tryz.sizeOf224
  v47 := Tryz.zeroValue224
  i47 := by kernel_rfl
  t56 := Tryz.underlying34
  a56 := Tryz.isAgg34
  z56 := Tryz.sizeOf34
  v56 := Tryz.zeroValue34
  i56 := by kernel_rfl
  t58 := Tryz.underlying26
  a58 := Tryz.isAgg26
  z58 := Tryz.sizeOf26
  v58 := Tryz.zeroValue26
  i58 := by kernel_rfl
  t60 := Tryz.underlying242
  a60 := Tryz.isAgg242
  z60 := Tryz.sizeOf242
  v60 := Tryz.zeroValue242
  i60 := by kernel_rfl
  t61 := Tryz.underlying243
  a61 := Tryz.isAgg243
  z61 := Tryz.sizeOf243
  v61 := Tryz.zeroValue243
  i61 := by kernel_rfl
  t65 := Tryz.underlying248
  a65 := Tryz.isAgg248
  z65 := Tryz.sizeOf248
  v65 := Tryz.zeroValue248
  i65 := by kernel_rfl
  t67 := Tryz.underlying260
  a67 := Tryz.isAgg260
  z67 := Tryz.sizeOf260
  v67 := Tryz.zeroValue260
  i67 := by kernel_rfl
  t71 := Tryz.underlying264
  a71 := Tryz.isAgg264
  z71 := Tryz.sizeOf264
  v71 := Tryz.zeroValue264
  i71 := by kernel_rfl
  t73 := Tryz.underlying274
  a73 := Tryz.isAgg274
  z73 := Tryz.sizeOf274
  v73 := Tryz.zeroValue274
  i73 := by kernel_rfl
  t74 := Tryz.underlying275
  a74 := Tryz.isAgg275
  z74 := Tryz.sizeOf275
  v74 := Tryz.zeroValue275
  i74 := by kernel_rfl }
open Go.RowKit Go.Lib Go.Sort in
theorem Tryz.pdqsort_iface {α : Type} [Inhabited α] (T : TypeId) (rv : Value) (gl gs : Nat) (rL : Reaches Tryz.prog T rv "Less" gl) (rS : Reaches Tryz.prog T rv "Swap" gs) (enc : α → Value) (lt : α → α → Bool) (hO : SWO lt) (C : IfaceThree Tryz.prog Tryz.laysGt18_ren T rv gl gs enc lt) :
    ∀ (N blk off a b limit : Nat) (d : Array α) (w : World), b - a < N → LessM Tryz.prog gl rv enc lt blk off d.size w → SwapM Tryz.prog gs rv enc blk off d.size → Holds enc w blk off d → blk < w.heap.size → a ≤ b → b ≤ d.size → d.size < 4611686018427387904 → limit < 4611686018427387904 → Below lt a b d →
    Calls Tryz.prog 39 #[.iface T rv, .int .i64 a, .int .i64 b, .int .i64 limit] w fun e w' => e = .returned (.tuple #[]) ∧ At enc w blk off (pdq lt d a b limit true true) w' := Any.pdqsort_iface Tryz.laysGt18 T rv gl gs rL rS enc lt hO C
def Tryz.laysGt11_ren : Go.Shelf.Ren := ⟨fun | 11 => 28 | 17 => 38 | 18 => 39 | 31 => 45 | 32 => 46 | 33 => 47 | 34 => 48 | 35 => 49 | 36 => 50 | 37 => 51 | 38 => 52 | 39 => 53 | 40 => 54 | 43 => 65 | 44 => 66 | 45 => 67 | 46 => 68 | 47 => 69 | 50 => 82 | n => n, fun | 45 => 221 | 3 => 3 | 4 => 4 | 47 => 224 | 0 => 0 | 56 => 34 | 58 => 26 | 61 => 243 | 60 => 242 | 65 => 248 | 5 => 5 | 9 => 9 | 67 => 260 | 71 => 264 | 73 => 274 | 74 => 275 | 43 => 222 | 26 => 246 | 38 => 259 | n => n, fun | n => n⟩
theorem Tryz.laysGt11 : Go.Proofs.LaysGt.n11 Tryz.prog Tryz.laysGt11_ren := {
  mixed := by kernel_rfl
  f11 := Tryz.func28.trans (congrArg some (by kernel_rfl))
  f17 := Tryz.func38.trans (congrArg some (by kernel_rfl))
  f18 := Tryz.func39.trans (congrArg some (by kernel_rfl))
  f31 := Tryz.func45.trans (congrArg some (by kernel_rfl))
  f32 := Tryz.func46.trans (congrArg some (by kernel_rfl))
  f33 := Tryz.func47.trans (congrArg some (by kernel_rfl))
  f34 := Tryz.func48.trans (congrArg some (by kernel_rfl))
  f35 := Tryz.func49.trans (congrArg some (by kernel_rfl))
  f36 := Tryz.func50.trans (congrArg some (by kernel_rfl))
  f37 := Tryz.func51.trans (congrArg some (by kernel_rfl))
  f38 := Tryz.func52.trans (congrArg some (by kernel_rfl))
  f39 := Tryz.func53.trans (congrArg some (by kernel_rfl))
  f40 := Tryz.func54.trans (congrArg some (by kernel_rfl))
  f43 := Tryz.func65.trans (congrArg some (by kernel_rfl))
  f44 := Tryz.func66.trans (congrArg some (by kernel_rfl))
  f45 := Tryz.func67.trans (congrArg some (by kernel_rfl))
  f46 := Tryz.func68.trans (congrArg some (by kernel_rfl))
  f47 := Tryz.func69.trans (congrArg some (by kernel_rfl))
  f50 := Tryz.func82.trans (congrArg some (by kernel_rfl))
  t0 := Tryz.underlying0
  a0 := Tryz.isAgg0
  z0 := Tryz.sizeOf0
  v0 := Tryz.zeroValue0
  i0 := by kernel_rfl
  t3 := Tryz.underlying3
  a3 := Tryz.isAgg3
  z3 := Tryz.sizeOf3
  v3 := Tryz.zeroValue3
  i3 := by kernel_rfl
  t4 := Tryz.underlying4
  a4 := Tryz.isAgg4
  z4 := Tryz.sizeOf4
  v4 := Tryz.zeroValue4
  i4 := by kernel_rfl
  t5 := Tryz.underlying5
  a5 := Tryz.isAgg5
  z5 := Tryz.sizeOf5
  v5 := Tryz.zeroValue5
  i5 := by kernel_rfl
  t9 := Tryz.underlying9
  a9 := Tryz.isAgg9
  z9 := Tryz.sizeOf9
  v9 := Tryz.zeroValue9
  i9 := by kernel_rfl
  t26 := Tryz.underlying246
  a26 := Tryz.isAgg246
  z26 := Tryz.sizeOf246
  v26 := Tryz.zeroValue246
  i26 := by kernel_rfl
  t38 := Tryz.underlying259
  a38 := Tryz.isAgg259
  z38 := Tryz.sizeOf259
  v38 := Tryz.zeroValue259
  i38 := by kernel_rfl
  t43 := Tryz.underlying222
  a43 := Tryz.isAgg222
  z43 := Tryz.sizeOf222
  v43 := Tryz.zeroValue222
  i43 := by kernel_rfl
  t45 := Tryz.underlying221
  a45 := Tryz.isAgg221
  z45 := Tryz.sizeOf221
  v45 := Tryz.zeroValue221
  i45 := by kernel_rfl
  t47 := Tryz.underlying224
  a47 := Tryz.isAgg224
  z47 := Tryz.sizeOf224
  v47 := Tryz.zeroValue224
  i47 := by kernel_rfl
  t56 := Tryz.underlying34
  a56 := Tryz.isAgg34
  z56 := Tryz.sizeOf34
  v56 := Tryz.zeroValue34
  i56 := by kernel_rfl
  t58 := Tryz.underlying26
  a58 := Tryz.isAgg26
  z58 := Tryz.sizeOf26
  v58 := Tryz.zeroValue26
  i58 := by kernel_rfl
  t60 := Tryz.underlying242
  a60 := Tryz.isAgg242
  z60 := Tryz.sizeOf242
  v60 := Tryz.zeroValue242
  i60 := by kernel_rfl
  t61 := Tryz.underlying243
  a61 := Tryz.isAgg243
  z61 := Tryz.sizeOf243
  v61 := Tryz.zeroValue243
  i61 := by kernel_rfl
  t65 := Tryz.underlying248
  a65 := Tryz.isAgg248
  z65 := Tryz.sizeOf248
  v65 := Tryz.zeroValue248
  i65 := by kernel_rfl
  t67 := Tryz.underlying260
  a67 := Tryz.isAgg260
  z67 := Tryz.sizeOf260
  v67 := Tryz.zeroValue260
  i67 := by kernel_rfl
  t71 := Tryz.underlying264
  a71 := Tryz.isAgg264
  z71 := Tryz.sizeOf264
  v71 := Tryz.zeroValue264
  i71 := by kernel_rfl
  t73 := Tryz.underlying274
  a73 := Tryz.isAgg274
  z73 := Tryz.sizeOf274
  v73 := Tryz.zeroValue274
  i73 := by kernel_rfl
  t74 := Tryz.underlying275
  a74 := Tryz.isAgg275
  z74 := Tryz.sizeOf275
  v74 := Tryz.zeroValue275
  i74 := by kernel_rfl }
open Go.RowKit Go.Lib Go.Sort in
theorem Tryz.sort_Sort_tiny {α : Type} [Inhabited α] (T : TypeId) (rv : Value) (gn : Nat) (rN : Reaches Tryz.prog T rv "Len" gn) (n : Nat) (hn : n ≤ 1) (w : World) (hlen : LenM Tryz.prog gn rv n w) :
    Calls Tryz.prog 28 #[.iface T rv] w fun e w' => e = .returned (.tuple #[]) ∧ ∃ q, w' = w.drewN q := Any.sort_Sort_tiny Tryz.laysGt11 T rv gn rN n hn w hlen
open Go.RowKit Go.Lib Go.Sort in
/-- **sort.Sort: WHAT THE ROW HOLDS, TO THE ELEMENT.** (LAID: no walk: one application.) -/
theorem Tryz.sort_Sort_eq {α : Type} [Inhabited α] (T : TypeId) (rv : Value) (gn gl gs : Nat) (rN : Reaches Tryz.prog T rv "Len" gn) (rL : Reaches Tryz.prog T rv "Less" gl) (rS : Reaches Tryz.prog T rv "Swap" gs) (enc : α → Value) (lt : α → α → Bool) (hO : SWO lt) (blk off : Nat) (d : Array α) (h2 : 2 ≤ d.size) (hsz : d.size < 4611686018427387904) (w : World) (hlen : LenM Tryz.prog gn rv d.size w) (hless : LessM Tryz.prog gl rv enc lt blk off d.size w) (hswap : SwapM Tryz.prog gs rv enc blk off d.size) (hH : Holds enc w blk off d) (hblk : blk < w.heap.size) :
    Calls Tryz.prog 28 #[.iface T rv] w fun e w' => e = .returned (.tuple #[]) ∧ ∃ n os, w' = grow (putRow enc (Sort.ahead w n) blk off (pdq lt d 0 d.size (Lib.bitLen d.size) true true)) os := Any.sort_Sort_eq Tryz.laysGt11 T rv gn gl gs rN rL rS enc lt hO blk off d h2 hsz w hlen hless hswap hH hblk
open Go.RowKit Go.Lib Go.Sort in
/-- **sort.Sort, IN THE DOCUMENTATION's OWN TERMS ("Sort sorts data in ascending order as determined by the Less method. .. The sort is not guaranteed to be stable"): A PERMUTATION OF WHAT THE ROW HELD, SORTED BY 'lt'.** (LAID: no walk: one application.) -/
theorem Tryz.sort_Sort_sorted {α : Type} [Inhabited α] (T : TypeId) (rv : Value) (gn gl gs : Nat) (rN : Reaches Tryz.prog T rv "Len" gn) (rL : Reaches Tryz.prog T rv "Less" gl) (rS : Reaches Tryz.prog T rv "Swap" gs) (enc : α → Value) (lt : α → α → Bool) (hO : SWO lt) (blk off : Nat) (d : Array α) (h2 : 2 ≤ d.size) (hsz : d.size < 4611686018427387904) (w : World) (hlen : LenM Tryz.prog gn rv d.size w) (hless : LessM Tryz.prog gl rv enc lt blk off d.size w) (hswap : SwapM Tryz.prog gs rv enc blk off d.size) (hH : Holds enc w blk off d) (hblk : blk < w.heap.size) :
    Calls Tryz.prog 28 #[.iface T rv] w fun e w' => e = .returned (.tuple #[]) ∧ ∃ d' n os, PermIn 0 d.size d d' ∧ SortedIn lt 0 d.size d' ∧ w' = grow (putRow enc (Sort.ahead w n) blk off d') os := Any.sort_Sort_sorted Tryz.laysGt11 T rv gn gl gs rN rL rS enc lt hO blk off d h2 hsz w hlen hless hswap hH hblk
def Tryz.laysGg36_ren : Go.Shelf.Ren := ⟨fun | 36 => 67 | n => n, fun | 66 => 274 | 51 => 26 | 0 => 0 | 60 => 260 | 41 => 224 | n => n, fun | n => n⟩
theorem Tryz.laysGg36 : Go.Proofs.LaysGg.n36 Tryz.prog Tryz.laysGg36_ren := {
  mixed := by kernel_rfl
  f36 := Tryz.func67.trans (congrArg some (by kernel_rfl))
  t0 := Tryz.underlying0
  a0 := Tryz.isAgg0
  z0 := Tryz.sizeOf0
  v0 := Tryz.zeroValue0
  i0 := by kernel_rfl
  t41 := Tryz.underlying224
  a41 := Tryz.isAgg224
  z41 := Tryz.sizeOf224
  v41 := Tryz.zeroValue224
  i41 := by kernel_rfl
  t51 := Tryz.underlying26
  a51 := Tryz.isAgg26
  z51 := Tryz.sizeOf26
  v51 := Tryz.zeroValue26
  i51 := by kernel_rfl
  t60 := Tryz.underlying260
  a60 := Tryz.isAgg260
  z60 := Tryz.sizeOf260
  v60 := Tryz.zeroValue260
  i60 := by kernel_rfl
  t66 := Tryz.underlying274
  a66 := Tryz.isAgg274
  z66 := Tryz.sizeOf274
  v66 := Tryz.zeroValue274
  i66 := by kernel_rfl }
open Go.RowKit Go.Lib Go.Sort in
/-- '*r ^= *r << 13; *r ^= *r >> 7; *r ^= *r << 17; return uint64(*r)': the cell holds 'xorNextN X' and that is handed back; three draws; nothing else turns. (LAID: no walk: one application.) -/
theorem Tryz.xorshift_Next (rb ro X : Nat) (hX : X < 18446744073709551616) (w : World) (hc : w.cell? ⟨rb, ro, none⟩ = some (.int .u64 X)) (hf : w.frozen? ⟨rb, ro, none⟩ = false) :
    Calls Tryz.prog 67 #[.pointer (some ⟨rb, ro, none⟩)] w fun e w' => e = .returned (.int .u64 (xorNextN X : Nat)) ∧ w' = (w.setCell ⟨rb, ro, none⟩ (.int .u64 (xorNextN X : Nat))).drewN 3 := Any.xorshift_Next Tryz.laysGg36 rb ro X hX w hc hf
def Tryz.laysGg35_ren : Go.Shelf.Ren := ⟨fun | 35 => 66 | 13 => 38 | 24 => 45 | 25 => 46 | n => n, fun | 3 => 3 | 41 => 224 | 49 => 34 | 51 => 26 | 4 => 4 | 5 => 5 | 9 => 9 | n => n, fun | n => n⟩
theorem Tryz.laysGg35 : Go.Proofs.LaysGg.n35 Tryz.prog Tryz.laysGg35_ren := {
  mixed := by kernel_rfl
  f13 := Tryz.func38.trans (congrArg some (by kernel_rfl))
  f24 := Tryz.func45.trans (congrArg some (by kernel_rfl))
  f25 := Tryz.func46.trans (congrArg some (by kernel_rfl))
  f35 := Tryz.func66.trans (congrArg some (by kernel_rfl))
  t3 := Tryz.underlying3
  a3 := Tryz.isAgg3
  z3 := Tryz.sizeOf3
  v3 := Tryz.zeroValue3
  i3 := by kernel_rfl
  t4 := Tryz.underlying4
  a4 := Tryz.isAgg4
  z4 := Tryz.sizeOf4
  v4 := Tryz.zeroValue4
  i4 := by kernel_rfl
  t5 := Tryz.underlying5
  a5 := Tryz.isAgg5
  z5 := Tryz.sizeOf5
  v5 := Tryz.zeroValue5
  i5 := by kernel_rfl
  t9 := Tryz.underlying9
  a9 := Tryz.isAgg9
  z9 := Tryz.sizeOf9
  v9 := Tryz.zeroValue9
  i9 := by kernel_rfl
  t41 := Tryz.underlying224
  a41 := Tryz.isAgg224
  z41 := Tryz.sizeOf224
  v41 := Tryz.zeroValue224
  i41 := by kernel_rfl
  t49 := Tryz.underlying34
  a49 := Tryz.isAgg34
  z49 := Tryz.sizeOf34
  v49 := Tryz.zeroValue34
  i49 := by kernel_rfl
  t51 := Tryz.underlying26
  a51 := Tryz.isAgg26
  z51 := Tryz.sizeOf26
  v51 := Tryz.zeroValue26
  i51 := by kernel_rfl }
open Go.RowKit Go.Lib Go.Sort in
/-- 'return 1 << bits.Len(uint(length))'. (LAID: no walk: one application.) -/
theorem Tryz.nextPowerOfTwo (n : Nat) (hn : n < 4611686018427387904) (w : World) :
    Calls Tryz.prog 66 #[.int .i64 n] w fun e w' => e = .returned (.int .u64 ((1 <<< bitsLen n : Nat) : Int)) ∧ w' = w := Any.nextPowerOfTwo Tryz.laysGg35 n hn w
def Tryz.laysGt43_ren : Go.Shelf.Ren := ⟨fun | 43 => 65 | n => n, fun | 45 => 221 | 3 => 3 | 4 => 4 | 0 => 0 | 43 => 222 | 26 => 246 | 38 => 259 | n => n, fun | n => n⟩
theorem Tryz.laysGt43 : Go.Proofs.LaysGt.n43 Tryz.prog Tryz.laysGt43_ren := {
  mixed := by kernel_rfl
  f43 := Tryz.func65.trans (congrArg some (by kernel_rfl))
  t0 := Tryz.underlying0
  a0 := Tryz.isAgg0
  z0 := Tryz.sizeOf0
  v0 := Tryz.zeroValue0
  i0 := by kernel_rfl
  t3 := Tryz.underlying3
  a3 := Tryz.isAgg3
  z3 := Tryz.sizeOf3
  v3 := Tryz.zeroValue3
  i3 := by kernel_rfl
  t4 := Tryz.underlying4
  a4 := Tryz.isAgg4
  z4 := Tryz.sizeOf4
  v4 := Tryz.zeroValue4
  i4 := by kernel_rfl
  t26 := Tryz.underlying246
  a26 := Tryz.isAgg246
  z26 := Tryz.sizeOf246
  v26 := Tryz.zeroValue246
  i26 := by kernel_rfl
  t38 := Tryz.underlying259
  a38 := Tryz.isAgg259
  z38 := Tryz.sizeOf259
  v38 := Tryz.zeroValue259
  i38 := by kernel_rfl
  t43 := Tryz.underlying222
  a43 := Tryz.isAgg222
  z43 := Tryz.sizeOf222
  v43 := Tryz.zeroValue222
  i43 := by kernel_rfl
  t45 := Tryz.underlying221
  a45 := Tryz.isAgg221
  z45 := Tryz.sizeOf221
  v45 := Tryz.zeroValue221
  i45 := by kernel_rfl }
open Go.RowKit Go.Lib Go.Sort in
theorem Tryz.siftDown_iface {α : Type} [Inhabited α] (T : TypeId) (rv : Value) (gl gs : Nat) (rL : Reaches Tryz.prog T rv "Less" gl) (rS : Reaches Tryz.prog T rv "Swap" gs) (enc : α → Value) (lt : α → α → Bool) (blk off lo hi first : Nat) (d : Array α) (w : World) (hless : LessM Tryz.prog gl rv enc lt blk off d.size w) (hswap : SwapM Tryz.prog gs rv enc blk off d.size) (hH : Holds enc w blk off d) (hlo : lo ≤ hi) (hb : first + hi ≤ d.size) (hsz : d.size < 4611686018427387904) :
    Calls Tryz.prog 65 #[.iface T rv, .int .i64 lo, .int .i64 hi, .int .i64 first] w fun e w' =>
      e = .returned (.tuple #[]) ∧ ∃ n, w' = putRow enc (Sort.ahead w n) blk off (siftDown lt hi first lo d) := Any.siftDown_iface Tryz.laysGt43 T rv gl gs rL rS enc lt blk off lo hi first d w hless hswap hH hlo hb hsz
open Go.RowKit Go.Lib Go.Sort in
/-- sort.siftDown, from a world to a 'sortWorld' of it. (LAID: no walk: one application.) -/
theorem Tryz.siftDown_iface_w {α : Type} [Inhabited α] (T : TypeId) (rv : Value) (gl gs : Nat) (rL : Reaches Tryz.prog T rv "Less" gl) (rS : Reaches Tryz.prog T rv "Swap" gs) (enc : α → Value) (lt : α → α → Bool) (blk off lo hi first : Nat) (d : Array α) (w : World) (hless : LessM Tryz.prog gl rv enc lt blk off d.size w) (hswap : SwapM Tryz.prog gs rv enc blk off d.size) (hH : Holds enc w blk off d) (hlo : lo ≤ hi) (hb : first + hi ≤ d.size) (hsz : d.size < 4611686018427387904) :
    Calls Tryz.prog 65 #[.iface T rv, .int .i64 lo, .int .i64 hi, .int .i64 first] w fun e w' => e = .returned (.tuple #[]) ∧ ∃ n os, w' = sortWorld enc w blk off n (siftDown lt hi first lo d) os := Any.siftDown_iface_w Tryz.laysGt43 T rv gl gs rL rS enc lt blk off lo hi first d w hless hswap hH hlo hb hsz
def Tryz.laysGt34_ren : Go.Shelf.Ren := ⟨fun | 34 => 48 | 43 => 65 | n => n, fun | 45 => 221 | 3 => 3 | 4 => 4 | 0 => 0 | 43 => 222 | 26 => 246 | 38 => 259 | n => n, fun | n => n⟩
theorem Tryz.laysGt34 : Go.Proofs.LaysGt.n34 Tryz.prog Tryz.laysGt34_ren := {
  mixed := by kernel_rfl
  f34 := Tryz.func48.trans (congrArg some (by kernel_rfl))
  f43 := Tryz.func65.trans (congrArg some (by kernel_rfl))
  t0 := Tryz.underlying0
  a0 := Tryz.isAgg0
  z0 := Tryz.sizeOf0
  v0 := Tryz.zeroValue0
  i0 := by kernel_rfl
  t3 := Tryz.underlying3
  a3 := Tryz.isAgg3
  z3 := Tryz.sizeOf3
  v3 := Tryz.zeroValue3
  i3 := by kernel_rfl
  t4 := Tryz.underlying4
  a4 := Tryz.isAgg4
  z4 := Tryz.sizeOf4
  v4 := Tryz.zeroValue4
  i4 := by kernel_rfl
  t26 := Tryz.underlying246
  a26 := Tryz.isAgg246
  z26 := Tryz.sizeOf246
  v26 := Tryz.zeroValue246
  i26 := by kernel_rfl
  t38 := Tryz.underlying259
  a38 := Tryz.isAgg259
  z38 := Tryz.sizeOf259
  v38 := Tryz.zeroValue259
  i38 := by kernel_rfl
  t43 := Tryz.underlying222
  a43 := Tryz.isAgg222
  z43 := Tryz.sizeOf222
  v43 := Tryz.zeroValue222
  i43 := by kernel_rfl
  t45 := Tryz.underlying221
  a45 := Tryz.isAgg221
  z45 := Tryz.sizeOf221
  v45 := Tryz.zeroValue221
  i45 := by kernel_rfl }
open Go.RowKit Go.Lib Go.Sort in
theorem Tryz.heapSort_iface_w {α : Type} [Inhabited α] (T : TypeId) (rv : Value) (gl gs : Nat) (rL : Reaches Tryz.prog T rv "Less" gl) (rS : Reaches Tryz.prog T rv "Swap" gs) (enc : α → Value) (lt : α → α → Bool) (blk off a b : Nat) (d : Array α) (w : World) (hless : LessM Tryz.prog gl rv enc lt blk off d.size w) (hswap : SwapM Tryz.prog gs rv enc blk off d.size) (hH : Holds enc w blk off d) (hblk : blk < w.heap.size) (hab : a ≤ b) (hb : b ≤ d.size) (hsz : d.size < 4611686018427387904) :
    Calls Tryz.prog 48 #[.iface T rv, .int .i64 a, .int .i64 b] w fun e w' => e = .returned (.tuple #[]) ∧ ∃ n os, w' = sortWorld enc w blk off n (heapSort lt d a b) os := Any.heapSort_iface_w Tryz.laysGt34 T rv gl gs rL rS enc lt blk off a b d w hless hswap hH hblk hab hb hsz
def Tryz.laysGt38_ren : Go.Shelf.Ren := ⟨fun | 38 => 52 | n => n, fun | 45 => 221 | 3 => 3 | 4 => 4 | 0 => 0 | 43 => 222 | 26 => 246 | 38 => 259 | n => n, fun | n => n⟩
theorem Tryz.laysGt38 : Go.Proofs.LaysGt.n38 Tryz.prog Tryz.laysGt38_ren := {
  mixed := by kernel_rfl
  f38 := Tryz.func52.trans (congrArg some (by kernel_rfl))
  t0 := Tryz.underlying0
  a0 := Tryz.isAgg0
  z0 := Tryz.sizeOf0
  v0 := Tryz.zeroValue0
  i0 := by kernel_rfl
  t3 := Tryz.underlying3
  a3 := Tryz.isAgg3
  z3 := Tryz.sizeOf3
  v3 := Tryz.zeroValue3
  i3 := by kernel_rfl
  t4 := Tryz.underlying4
  a4 := Tryz.isAgg4
  z4 := Tryz.sizeOf4
  v4 := Tryz.zeroValue4
  i4 := by kernel_rfl
  t26 := Tryz.underlying246
  a26 := Tryz.isAgg246
  z26 := Tryz.sizeOf246
  v26 := Tryz.zeroValue246
  i26 := by kernel_rfl
  t38 := Tryz.underlying259
  a38 := Tryz.isAgg259
  z38 := Tryz.sizeOf259
  v38 := Tryz.zeroValue259
  i38 := by kernel_rfl
  t43 := Tryz.underlying222
  a43 := Tryz.isAgg222
  z43 := Tryz.sizeOf222
  v43 := Tryz.zeroValue222
  i43 := by kernel_rfl
  t45 := Tryz.underlying221
  a45 := Tryz.isAgg221
  z45 := Tryz.sizeOf221
  v45 := Tryz.zeroValue221
  i45 := by kernel_rfl }
open Go.RowKit Go.Lib Go.Sort in
theorem Tryz.partialInsertionSort_iface {α : Type} [Inhabited α] (T : TypeId) (rv : Value) (gl gs : Nat) (rL : Reaches Tryz.prog T rv "Less" gl) (rS : Reaches Tryz.prog T rv "Swap" gs) (enc : α → Value) (lt : α → α → Bool) (blk off a b : Nat) (d : Array α) (w : World) (hless : LessM Tryz.prog gl rv enc lt blk off d.size w) (hswap : SwapM Tryz.prog gs rv enc blk off d.size) (hH : Holds enc w blk off d) (hab : a < b) (hb : b ≤ d.size) (hsz : d.size < 4611686018427387904) :
    Calls Tryz.prog 52 #[.iface T rv, .int .i64 a, .int .i64 b] w fun e w' =>
      e = .returned (.bool (Sort.partialInsertionSort lt d a b).2) ∧ ∃ n, w' = putRow enc (Sort.ahead w n) blk off (Sort.partialInsertionSort lt d a b).1 := Any.partialInsertionSort_iface Tryz.laysGt38 T rv gl gs rL rS enc lt blk off a b d w hless hswap hH hab hb hsz
open Go.RowKit Go.Lib Go.Sort in
/-- sort.partialInsertionSort, from a world to a 'sortWorld' of it. (LAID: no walk: one application.) -/
theorem Tryz.partialInsertionSort_iface_w {α : Type} [Inhabited α] (T : TypeId) (rv : Value) (gl gs : Nat) (rL : Reaches Tryz.prog T rv "Less" gl) (rS : Reaches Tryz.prog T rv "Swap" gs) (enc : α → Value) (lt : α → α → Bool) (blk off a b : Nat) (d : Array α) (w : World) (hless : LessM Tryz.prog gl rv enc lt blk off d.size w) (hswap : SwapM Tryz.prog gs rv enc blk off d.size) (hH : Holds enc w blk off d) (hab : a < b) (hb : b ≤ d.size) (hsz : d.size < 4611686018427387904) :
    Calls Tryz.prog 52 #[.iface T rv, .int .i64 a, .int .i64 b] w fun e w' => e = .returned (.bool (Sort.partialInsertionSort lt d a b).2) ∧ ∃ n os, w' = sortWorld enc w blk off n (Sort.partialInsertionSort lt d a b).1 os := Any.partialInsertionSort_iface_w Tryz.laysGt38 T rv gl gs rL rS enc lt blk off a b d w hless hswap hH hab hb hsz
end Go.Proofs
