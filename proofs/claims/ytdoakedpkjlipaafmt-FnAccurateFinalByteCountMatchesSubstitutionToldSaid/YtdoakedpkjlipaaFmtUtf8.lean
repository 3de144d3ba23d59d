/- unicode/utf8.DecodeRune at this program's numbers: the library's contract. -/
import Derived.Test.YtdoakedpkjlipaaFmtProg
import Derived.Shelf.Spec.DecodeRune
import Derived.Shelf.Unicode.DecodeLastEight
import Derived.KernelRfl
namespace Go.Proofs
def Tryf.lays32_ren : Go.Shelf.Ren := ⟨fun | 32 => 31 | 49 => 35 | n => n, fun | 0 => 0 | 3 => 3 | 4 => 4 | 5 => 5 | 21 => 21 | 25 => 59 | 30 => 25 | 33 => 200 | 66 => 211 | 68 => 213 | 69 => 214 | n => n, fun | 2 => 0 | 3 => 1 | n => n⟩
theorem Tryf.lays32 : Go.Proofs.Lays7.n32 Tryf.prog Tryf.lays32_ren := {
  mixed := by kernel_rfl
  f32 := Tryf.func31.trans (congrArg some (by kernel_rfl))
  f49 := Tryf.func35.trans (congrArg some (by kernel_rfl))
  t0 := Tryf.underlying0
  a0 := Tryf.isAgg0
  z0 := Tryf.sizeOf0
  v0 := Tryf.zeroValue0
  i0 := by kernel_rfl
  t3 := Tryf.underlying3
  a3 := Tryf.isAgg3
  z3 := Tryf.sizeOf3
  v3 := Tryf.zeroValue3
  i3 := by kernel_rfl
  t4 := Tryf.underlying4
  a4 := Tryf.isAgg4
  z4 := Tryf.sizeOf4
  v4 := Tryf.zeroValue4
  i4 := by kernel_rfl
  t5 := Tryf.underlying5
  a5 := Tryf.isAgg5
  z5 := Tryf.sizeOf5
  v5 := Tryf.zeroValue5
  i5 := by kernel_rfl
  t21 := Tryf.underlying21
  a21 := Tryf.isAgg21
  z21 := Tryf.sizeOf21
  v21 := Tryf.zeroValue21
  i21 := by kernel_rfl
  t25 := Tryf.underlying59
  a25 := Tryf.isAgg59
  z25 := Tryf.sizeOf59
  v25 := Tryf.zeroValue59
  i25 := by kernel_rfl
  t30 := Tryf.underlying25
  a30 := Tryf.isAgg25
  z30 := Tryf.sizeOf25
  v30 := Tryf.zeroValue25
  i30 := by kernel_rfl
  t33 := Tryf.underlying200
  a33 := Tryf.isAgg200
  z33 := Tryf.sizeOf200
  v33 := Tryf.zeroValue200
  i33 := by kernel_rfl
  t66 := Tryf.underlying211
  a66 := Tryf.isAgg211
  z66 := Tryf.sizeOf211
  t68 := Tryf.underlying213
  a68 := Tryf.isAgg213
  z68 := Tryf.sizeOf213
  v68 := Tryf.zeroValue213
  i68 := by kernel_rfl
  t69 := Tryf.underlying214
  a69 := Tryf.isAgg214
  z69 := Tryf.sizeOf214
  v69 := Tryf.zeroValue214
  i69 := by kernel_rfl
  g2 := by kernel_rfl
  g3 := by kernel_rfl }
open Go.RowKit Go.Lib in
theorem Tryf.utf8_DecodeRune (s : ByteArray) (b off cap : Nat) (w : World) (hT : Lib.Utf8Tabs 0 1 w) (hp : ∀ j, j < s.size → w.cell? ⟨b, off + j, none⟩ = some (.int .u8 (s.get! j).toNat)) :
    Calls Tryf.prog 31 #[.slice (some ⟨b, off, none⟩) s.size cap] w fun e w' => e = .returned (.tuple #[.int .i32 (Lib.decodeGo s).1, .int .i64 (Lib.decodeGo s).2]) ∧ Below w.heap.size w w' := Any7.utf8_DecodeRune Tryf.lays32 s b off cap w hT hp
end Go.Proofs
