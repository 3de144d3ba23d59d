/-
  DERIVED: THE SHELF's CONTRACTS AT THIS DUMP, IN PLAIN WORDS (tools/lay-plain.mjs out of 'TryzShelf.lean', which tools/lay-shelf.mjs wrote): THE SAME DECLARATIONS UNDER THE SAME NAMES: 'import', 'namespace', 'open', 'def', 'theorem' AND NOTHING ELSE: no command of the shelf's: FOR A HAND-IN. Each laying: the table of numbers ('.._ren') and one theorem, a field a fact of the dump's own or the kernel's comparison; each contract: ONE APPLICATION.
-/
import Derived.Shelf.LaysM
import Derived.Shelf.Strconv.Clone
import Derived.Shelf.Strconv.SyntaxError
import Derived.Shelf.LaysC
import Derived.Shelf.Strconv.ToError
import Derived.Shelf.Strconv.Lower
import Derived.Shelf.Strconv.RangeError
import Derived.Shelf.Strconv.ToErrorRange
import Derived.Test.YtnmjfjfpedbalaaGreatDoorProg
namespace Go.Proofs
open Go.Shelf
def Tryz.laysM316_ren : Go.Shelf.Ren := ⟨fun | 316 => 49 | n => n, fun | 9 => 9 | 3 => 3 | 4 => 4 | 37 => 22 | 0 => 0 | 127 => 121 | 5 => 5 | n => n, fun | n => n⟩
theorem Tryz.laysM316 : Go.Proofs.LaysM.n316 Tryz.prog Tryz.laysM316_ren := {
  mixed := by kernel_rfl
  f316 := Tryz.func49.trans (congrArg some (by kernel_rfl))
  t0 := Tryz.underlying0
  a0 := Tryz.isAgg0
  z0 := Tryz.sizeOf0
  v0 := Tryz.zeroValue0
  t3 := Tryz.underlying3
  a3 := Tryz.isAgg3
  z3 := Tryz.sizeOf3
  v3 := Tryz.zeroValue3
  t4 := Tryz.underlying4
  a4 := Tryz.isAgg4
  z4 := Tryz.sizeOf4
  v4 := Tryz.zeroValue4
  t9 := Tryz.underlying9
  a9 := Tryz.isAgg9
  z9 := Tryz.sizeOf9
  v9 := Tryz.zeroValue9
  t37 := Tryz.underlying22
  a37 := Tryz.isAgg22
  z37 := Tryz.sizeOf22
  v37 := Tryz.zeroValue22
  t127 := Tryz.underlying121
  a127 := Tryz.isAgg121
  z127 := Tryz.sizeOf121
  v127 := Tryz.zeroValue121
  t5 := Tryz.underlying5
  a5 := Tryz.isAgg5
  z5 := Tryz.sizeOf5
  v5 := Tryz.zeroValue5
  i0 := by kernel_rfl
  i3 := by kernel_rfl
  i4 := by kernel_rfl
  i5 := by kernel_rfl
  i9 := by kernel_rfl
  i37 := by kernel_rfl
  i127 := by kernel_rfl }
open Go.RowKit in
/-- internal/stringslite.Clone (what strings.Clone calls): "Clone returns a fresh copy of s.": THE SAME BYTES. Of what was there nothing has turned (a new row is laid, and frozen, where s is not empty). (LAID: no walk: one application.) -/
theorem Tryz.stringslite_Clone (s : ByteArray) (w : World) (hlim : s.size ≤ 281474976710656) :
    Calls Tryz.prog 49 #[.string s] w fun e w' => e = .returned (.string s) ∧ Below w.heap.size w w' := Any.stringslite_Clone Tryz.laysM316 s w hlim
def Tryz.laysM279_ren : Go.Shelf.Ren := ⟨fun | 279 => 43 | 316 => 49 | n => n, fun | 9 => 9 | 168 => 86 | 75 => 73 | 210 => 95 | 3 => 3 | 4 => 4 | 37 => 22 | 0 => 0 | 127 => 121 | 80 => 66 | 5 => 5 | n => n, fun | 15 => 1 | n => n⟩
theorem Tryz.laysM279 : Go.Proofs.LaysM.n279 Tryz.prog Tryz.laysM279_ren := {
  mixed := by kernel_rfl
  f279 := Tryz.func43.trans (congrArg some (by kernel_rfl))
  f316 := Tryz.func49.trans (congrArg some (by kernel_rfl))
  t0 := Tryz.underlying0
  a0 := Tryz.isAgg0
  z0 := Tryz.sizeOf0
  v0 := Tryz.zeroValue0
  t3 := Tryz.underlying3
  a3 := Tryz.isAgg3
  z3 := Tryz.sizeOf3
  v3 := Tryz.zeroValue3
  t4 := Tryz.underlying4
  a4 := Tryz.isAgg4
  z4 := Tryz.sizeOf4
  v4 := Tryz.zeroValue4
  t9 := Tryz.underlying9
  a9 := Tryz.isAgg9
  z9 := Tryz.sizeOf9
  v9 := Tryz.zeroValue9
  t37 := Tryz.underlying22
  a37 := Tryz.isAgg22
  z37 := Tryz.sizeOf22
  v37 := Tryz.zeroValue22
  t75 := Tryz.underlying73
  a75 := Tryz.isAgg73
  z75 := Tryz.sizeOf73
  v75 := Tryz.zeroValue73
  t127 := Tryz.underlying121
  a127 := Tryz.isAgg121
  z127 := Tryz.sizeOf121
  v127 := Tryz.zeroValue121
  t168 := Tryz.underlying86
  a168 := Tryz.isAgg86
  z168 := Tryz.sizeOf86
  v168 := Tryz.zeroValue86
  t210 := Tryz.underlying95
  a210 := Tryz.isAgg95
  z210 := Tryz.sizeOf95
  v210 := Tryz.zeroValue95
  g15 := by kernel_rfl
  t5 := Tryz.underlying5
  a5 := Tryz.isAgg5
  z5 := Tryz.sizeOf5
  v5 := Tryz.zeroValue5
  t80 := Tryz.underlying66
  a80 := Tryz.isAgg66
  z80 := Tryz.sizeOf66
  v80 := Tryz.zeroValue66
  i0 := by kernel_rfl
  i3 := by kernel_rfl
  i4 := by kernel_rfl
  i5 := by kernel_rfl
  i9 := by kernel_rfl
  i37 := by kernel_rfl
  i75 := by kernel_rfl
  i80 := by kernel_rfl
  i127 := by kernel_rfl
  i168 := by kernel_rfl
  i210 := by kernel_rfl
  m15 := by kernel_rfl }
open Go.RowKit in
/-- strconv.syntaxError: '&NumError{fn, stringslite.Clone(str), ErrSyntax}': A POINTER TO A NEW BLOCK that holds fn, str's bytes, and what the variable ErrSyntax holds. Of what was there nothing has turned. (LAID: no walk: one application.) -/
theorem Tryz.strconv_syntaxError (fn s : ByteArray) (ev : Value) (w : World) (hlim : s.size ≤ 281474976710656) (hv : w.cell? ⟨1, 0, none⟩ = some ev) (hev : ev = .nilIface ∨ ∃ te pe, ev = .iface te pe) :
    Calls Tryz.prog 43 #[.string fn, .string s] w fun e w' => ∃ N, e = .returned (.pointer (some ⟨N, 0, none⟩)) ∧ w.heap.size ≤ N ∧ w'.heap[N]? = some (.cells #[.string fn, .string s, ev] 95 (0, 0)) ∧ Below w.heap.size w w' := Any.strconv_syntaxError Tryz.laysM279 fn s ev w hlim hv hev
def Tryz.laysC245_ren : Go.Shelf.Ren := ⟨fun | 245 => 40 | 279 => 43 | 280 => 44 | 281 => 45 | 282 => 46 | 316 => 49 | 171 => 51 | 205 => 50 | 243 => 65 | 246 => 82 | 283 => 87 | 284 => 88 | 285 => 89 | 286 => 90 | 129 => 71 | 317 => 93 | 318 => 75 | 319 => 94 | 320 => 95 | 337 => 96 | 338 => 97 | n => n, fun | 9 => 9 | 3 => 3 | 75 => 73 | 167 => 85 | 4 => 4 | 168 => 86 | 210 => 95 | 37 => 22 | 0 => 0 | 127 => 121 | 145 => 124 | 143 => 122 | 2 => 2 | 171 => 80 | 53 => 77 | 5 => 5 | 173 => 155 | 212 => 162 | 51 => 32 | 20 => 20 | 213 => 163 | 46 => 103 | 232 => 167 | 233 => 168 | 80 => 66 | n => n, fun | 15 => 1 | 16 => 2 | 17 => 11 | 18 => 12 | 19 => 13 | n => n⟩
theorem Tryz.laysC245 : Go.Proofs.LaysC.n245 Tryz.prog Tryz.laysC245_ren := {
  mixed := by kernel_rfl
  f129 := Tryz.func71.trans (congrArg some (by kernel_rfl))
  f171 := Tryz.func51.trans (congrArg some (by kernel_rfl))
  f205 := Tryz.func50.trans (congrArg some (by kernel_rfl))
  f243 := Tryz.func65.trans (congrArg some (by kernel_rfl))
  f245 := Tryz.func40.trans (congrArg some (by kernel_rfl))
  f246 := Tryz.func82.trans (congrArg some (by kernel_rfl))
  f279 := Tryz.func43.trans (congrArg some (by kernel_rfl))
  f280 := Tryz.func44.trans (congrArg some (by kernel_rfl))
  f281 := Tryz.func45.trans (congrArg some (by kernel_rfl))
  f282 := Tryz.func46.trans (congrArg some (by kernel_rfl))
  f283 := Tryz.func87.trans (congrArg some (by kernel_rfl))
  f284 := Tryz.func88.trans (congrArg some (by kernel_rfl))
  f285 := Tryz.func89.trans (congrArg some (by kernel_rfl))
  f286 := Tryz.func90.trans (congrArg some (by kernel_rfl))
  f316 := Tryz.func49.trans (congrArg some (by kernel_rfl))
  f317 := Tryz.func93.trans (congrArg some (by kernel_rfl))
  f318 := Tryz.func75.trans (congrArg some (by kernel_rfl))
  f319 := Tryz.func94.trans (congrArg some (by kernel_rfl))
  f320 := Tryz.func95.trans (congrArg some (by kernel_rfl))
  f337 := Tryz.func96.trans (congrArg some (by kernel_rfl))
  f338 := Tryz.func97.trans (congrArg some (by kernel_rfl))
  t0 := Tryz.underlying0
  a0 := Tryz.isAgg0
  z0 := Tryz.sizeOf0
  v0 := Tryz.zeroValue0
  t2 := Tryz.underlying2
  a2 := Tryz.isAgg2
  z2 := Tryz.sizeOf2
  v2 := Tryz.zeroValue2
  t3 := Tryz.underlying3
  a3 := Tryz.isAgg3
  z3 := Tryz.sizeOf3
  v3 := Tryz.zeroValue3
  t4 := Tryz.underlying4
  a4 := Tryz.isAgg4
  z4 := Tryz.sizeOf4
  v4 := Tryz.zeroValue4
  t5 := Tryz.underlying5
  a5 := Tryz.isAgg5
  z5 := Tryz.sizeOf5
  v5 := Tryz.zeroValue5
  t9 := Tryz.underlying9
  a9 := Tryz.isAgg9
  z9 := Tryz.sizeOf9
  v9 := Tryz.zeroValue9
  t20 := Tryz.underlying20
  a20 := Tryz.isAgg20
  z20 := Tryz.sizeOf20
  v20 := Tryz.zeroValue20
  t37 := Tryz.underlying22
  a37 := Tryz.isAgg22
  z37 := Tryz.sizeOf22
  v37 := Tryz.zeroValue22
  t46 := Tryz.underlying103
  a46 := Tryz.isAgg103
  z46 := Tryz.sizeOf103
  v46 := Tryz.zeroValue103
  t51 := Tryz.underlying32
  a51 := Tryz.isAgg32
  z51 := Tryz.sizeOf32
  v51 := Tryz.zeroValue32
  t53 := Tryz.underlying77
  a53 := Tryz.isAgg77
  z53 := Tryz.sizeOf77
  v53 := Tryz.zeroValue77
  t75 := Tryz.underlying73
  a75 := Tryz.isAgg73
  z75 := Tryz.sizeOf73
  v75 := Tryz.zeroValue73
  t127 := Tryz.underlying121
  a127 := Tryz.isAgg121
  z127 := Tryz.sizeOf121
  v127 := Tryz.zeroValue121
  t143 := Tryz.underlying122
  a143 := Tryz.isAgg122
  z143 := Tryz.sizeOf122
  v143 := Tryz.zeroValue122
  t145 := Tryz.underlying124
  a145 := Tryz.isAgg124
  z145 := Tryz.sizeOf124
  v145 := Tryz.zeroValue124
  t167 := Tryz.underlying85
  a167 := Tryz.isAgg85
  z167 := Tryz.sizeOf85
  v167 := Tryz.zeroValue85
  t168 := Tryz.underlying86
  a168 := Tryz.isAgg86
  z168 := Tryz.sizeOf86
  v168 := Tryz.zeroValue86
  t171 := Tryz.underlying80
  a171 := Tryz.isAgg80
  z171 := Tryz.sizeOf80
  v171 := Tryz.zeroValue80
  t173 := Tryz.underlying155
  a173 := Tryz.isAgg155
  z173 := Tryz.sizeOf155
  v173 := Tryz.zeroValue155
  t210 := Tryz.underlying95
  a210 := Tryz.isAgg95
  z210 := Tryz.sizeOf95
  v210 := Tryz.zeroValue95
  t212 := Tryz.underlying162
  a212 := Tryz.isAgg162
  z212 := Tryz.sizeOf162
  v212 := Tryz.zeroValue162
  t213 := Tryz.underlying163
  a213 := Tryz.isAgg163
  z213 := Tryz.sizeOf163
  t232 := Tryz.underlying167
  a232 := Tryz.isAgg167
  z232 := Tryz.sizeOf167
  v232 := Tryz.zeroValue167
  t233 := Tryz.underlying168
  a233 := Tryz.isAgg168
  z233 := Tryz.sizeOf168
  v233 := Tryz.zeroValue168
  g15 := by kernel_rfl
  g16 := by kernel_rfl
  g17 := by kernel_rfl
  g18 := by kernel_rfl
  g19 := by kernel_rfl
  t80 := Tryz.underlying66
  a80 := Tryz.isAgg66
  z80 := Tryz.sizeOf66
  v80 := Tryz.zeroValue66
  i0 := by kernel_rfl
  i2 := by kernel_rfl
  i3 := by kernel_rfl
  i4 := by kernel_rfl
  i5 := by kernel_rfl
  i9 := by kernel_rfl
  i20 := by kernel_rfl
  i37 := by kernel_rfl
  i46 := by kernel_rfl
  i51 := by kernel_rfl
  i53 := by kernel_rfl
  i75 := by kernel_rfl
  i80 := by kernel_rfl
  i127 := by kernel_rfl
  i143 := by kernel_rfl
  i145 := by kernel_rfl
  i167 := by kernel_rfl
  i168 := by kernel_rfl
  i171 := by kernel_rfl
  i173 := by kernel_rfl
  i210 := by kernel_rfl
  i212 := by kernel_rfl
  i232 := by kernel_rfl
  i233 := by kernel_rfl
  m15 := by kernel_rfl
  m16 := by kernel_rfl
  m17 := by kernel_rfl
  m18 := by kernel_rfl
  m19 := by kernel_rfl
  c0 := by kernel_rfl
  c2 := by kernel_rfl
  c3 := by kernel_rfl
  c4 := by kernel_rfl
  c5 := by kernel_rfl
  c9 := by kernel_rfl
  c20 := by kernel_rfl
  c37 := by kernel_rfl
  c46 := by kernel_rfl
  c51 := by kernel_rfl
  c53 := by kernel_rfl
  c75 := by kernel_rfl
  c80 := by kernel_rfl
  c127 := by kernel_rfl
  c143 := by kernel_rfl
  c145 := by kernel_rfl
  c167 := by kernel_rfl
  c168 := by kernel_rfl
  c171 := by kernel_rfl
  c173 := by kernel_rfl
  c210 := by kernel_rfl
  c212 := by kernel_rfl
  c213 := by kernel_rfl
  c232 := by kernel_rfl
  c233 := by kernel_rfl }
open Go.RowKit in
/-- strconv.toError, at the inner package's ErrSyntax: 'syntaxError(fn, s)' as an error: A *NumError IN A NEW BLOCK. (LAID: no walk: one application.) -/
theorem Tryz.strconv_toError_syntax (fn s : ByteArray) (base bits : Int) (ev : Value) (w : World) (hlim : s.size ≤ 281474976710656) (hv : w.cell? ⟨1, 0, none⟩ = some ev) (hev : ev = .nilIface ∨ ∃ te pe, ev = .iface te pe) :
    Calls Tryz.prog 40 #[.string fn, .string s, .int .i64 base, .int .i64 bits, .iface 85 (.int .i64 2)] w fun e w' => ∃ N, e = .returned (.iface 86 (.pointer (some ⟨N, 0, none⟩))) ∧ w.heap.size ≤ N ∧ w'.heap[N]? = some (.cells #[.string fn, .string s, ev] 95 (0, 0)) ∧ Below w.heap.size w w' := Any.strconv_toError_syntax Tryz.laysC245 fn s base bits ev w hlim hv hev
def Tryz.lays321_ren : Go.Shelf.Ren := ⟨fun | 321 => 69 | n => n, fun | 5 => 5 | n => n, fun | n => n⟩
theorem Tryz.lays321 : Go.Proofs.Lays.n321 Tryz.prog Tryz.lays321_ren := {
  mixed := by kernel_rfl
  f321 := Tryz.func69.trans (congrArg some (by kernel_rfl))
  t5 := Tryz.underlying5
  a5 := Tryz.isAgg5
  z5 := Tryz.sizeOf5
  v5 := Tryz.zeroValue5 }
open Go.RowKit in
/-- internal/strconv.lower: 'c | ('x' - 'X')': the bit 32 set. The world is as it was. (LAID: no walk: one application.) -/
theorem Tryz.internal_strconv_lower (c : Int) (w : World) :
    Calls Tryz.prog 69 #[.int .u8 c] w fun e w' => e = .returned (.int .u8 (bits .or .u8 c 32)) ∧ w' = w := Any.internal_strconv_lower Tryz.lays321 c w
def Tryz.laysM280_ren : Go.Shelf.Ren := ⟨fun | 280 => 44 | 316 => 49 | n => n, fun | 9 => 9 | 168 => 86 | 75 => 73 | 210 => 95 | 3 => 3 | 4 => 4 | 37 => 22 | 0 => 0 | 127 => 121 | 80 => 66 | 5 => 5 | n => n, fun | 16 => 2 | n => n⟩
theorem Tryz.laysM280 : Go.Proofs.LaysM.n280 Tryz.prog Tryz.laysM280_ren := {
  mixed := by kernel_rfl
  f280 := Tryz.func44.trans (congrArg some (by kernel_rfl))
  f316 := Tryz.func49.trans (congrArg some (by kernel_rfl))
  t0 := Tryz.underlying0
  a0 := Tryz.isAgg0
  z0 := Tryz.sizeOf0
  v0 := Tryz.zeroValue0
  t3 := Tryz.underlying3
  a3 := Tryz.isAgg3
  z3 := Tryz.sizeOf3
  v3 := Tryz.zeroValue3
  t4 := Tryz.underlying4
  a4 := Tryz.isAgg4
  z4 := Tryz.sizeOf4
  v4 := Tryz.zeroValue4
  t9 := Tryz.underlying9
  a9 := Tryz.isAgg9
  z9 := Tryz.sizeOf9
  v9 := Tryz.zeroValue9
  t37 := Tryz.underlying22
  a37 := Tryz.isAgg22
  z37 := Tryz.sizeOf22
  v37 := Tryz.zeroValue22
  t75 := Tryz.underlying73
  a75 := Tryz.isAgg73
  z75 := Tryz.sizeOf73
  v75 := Tryz.zeroValue73
  t127 := Tryz.underlying121
  a127 := Tryz.isAgg121
  z127 := Tryz.sizeOf121
  v127 := Tryz.zeroValue121
  t168 := Tryz.underlying86
  a168 := Tryz.isAgg86
  z168 := Tryz.sizeOf86
  v168 := Tryz.zeroValue86
  t210 := Tryz.underlying95
  a210 := Tryz.isAgg95
  z210 := Tryz.sizeOf95
  v210 := Tryz.zeroValue95
  g16 := by kernel_rfl
  t5 := Tryz.underlying5
  a5 := Tryz.isAgg5
  z5 := Tryz.sizeOf5
  v5 := Tryz.zeroValue5
  t80 := Tryz.underlying66
  a80 := Tryz.isAgg66
  z80 := Tryz.sizeOf66
  v80 := Tryz.zeroValue66
  i0 := by kernel_rfl
  i3 := by kernel_rfl
  i4 := by kernel_rfl
  i5 := by kernel_rfl
  i9 := by kernel_rfl
  i37 := by kernel_rfl
  i75 := by kernel_rfl
  i80 := by kernel_rfl
  i127 := by kernel_rfl
  i168 := by kernel_rfl
  i210 := by kernel_rfl
  m16 := by kernel_rfl }
open Go.RowKit in
/-- strconv.rangeError: '&NumError{fn, stringslite.Clone(str), ErrRange}': A POINTER TO A NEW BLOCK that holds fn, str's bytes, and what the variable ErrRange holds. Of what was there nothing has turned. (LAID: no walk: one application.) -/
theorem Tryz.strconv_rangeError (fn s : ByteArray) (ev : Value) (w : World) (hlim : s.size ≤ 281474976710656) (hv : w.cell? ⟨2, 0, none⟩ = some ev) (hev : ev = .nilIface ∨ ∃ te pe, ev = .iface te pe) :
    Calls Tryz.prog 44 #[.string fn, .string s] w fun e w' => ∃ N, e = .returned (.pointer (some ⟨N, 0, none⟩)) ∧ w.heap.size ≤ N ∧ w'.heap[N]? = some (.cells #[.string fn, .string s, ev] 95 (0, 0)) ∧ Below w.heap.size w w' := Any.strconv_rangeError Tryz.laysM280 fn s ev w hlim hv hev
open Go.RowKit in
/-- strconv.toError, at the inner package's ErrRange: 'rangeError(fn, s)' as an error: A *NumError IN A NEW BLOCK. (LAID: no walk: one application.) -/
theorem Tryz.strconv_toError_range (fn s : ByteArray) (base bits : Int) (ev : Value) (w : World) (hlim : s.size ≤ 281474976710656) (hv : w.cell? ⟨2, 0, none⟩ = some ev) (hev : ev = .nilIface ∨ ∃ te pe, ev = .iface te pe) :
    Calls Tryz.prog 40 #[.string fn, .string s, .int .i64 base, .int .i64 bits, .iface 85 (.int .i64 1)] w fun e w' => ∃ N, e = .returned (.iface 86 (.pointer (some ⟨N, 0, none⟩))) ∧ w.heap.size ≤ N ∧ w'.heap[N]? = some (.cells #[.string fn, .string s, ev] 95 (0, 0)) ∧ Below w.heap.size w w' := Any.strconv_toError_range Tryz.laysC245 fn s base bits ev w hlim hv hev
end Go.Proofs
