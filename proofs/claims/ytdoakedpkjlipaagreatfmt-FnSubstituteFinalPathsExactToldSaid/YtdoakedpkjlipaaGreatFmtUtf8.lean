/- unicode/utf8.DecodeRune at this program's numbers: the library's contract. -/
import Derived.Test.YtdoakedpkjlipaaGreatFmtProg
import Derived.Shelf.Spec.DecodeRune
import Derived.Shelf.Unicode.DecodeLastEight
import Derived.KernelRfl
namespace Go.Proofs
def Tryz.lays32_ren : Go.Shelf.Ren := ⟨fun | 32 => 31 | 49 => 36 | n => n, fun | 0 => 0 | 3 => 3 | 4 => 4 | 5 => 5 | 21 => 21 | 25 => 61 | 30 => 25 | 33 => 198 | 66 => 210 | 68 => 212 | 69 => 213 | n => n, fun | 2 => 0 | 3 => 1 | n => n⟩
theorem Tryz.lays32 : Go.Proofs.Lays7.n32 Tryz.prog Tryz.lays32_ren := {
  mixed := by kernel_rfl
  f32 := Tryz.func31.trans (congrArg some (by kernel_rfl))
  f49 := Tryz.func36.trans (congrArg some (by kernel_rfl))
  t0 := Tryz.underlying0
  a0 := Tryz.isAgg0
  z0 := Tryz.sizeOf0
  v0 := Tryz.zeroValue0
  i0 := by kernel_rfl
  t3 := Tryz.underlying3
  a3 := Tryz.isAgg3
  z3 := Tryz.sizeOf3
  v3 := Tryz.zeroValue3
  i3 := by kernel_rfl
  t4 := Tryz.underlying4
  a4 := Tryz.isAgg4
  z4 := Tryz.sizeOf4
  v4 := Tryz.zeroValue4
  i4 := by kernel_rfl
  t5 := Tryz.underlying5
  a5 := Tryz.isAgg5
  z5 := Tryz.sizeOf5
  v5 := Tryz.zeroValue5
  i5 := by kernel_rfl
  t21 := Tryz.underlying21
  a21 := Tryz.isAgg21
  z21 := Tryz.sizeOf21
  v21 := Tryz.zeroValue21
  i21 := by kernel_rfl
  t25 := Tryz.underlying61
  a25 := Tryz.isAgg61
  z25 := Tryz.sizeOf61
  v25 := Tryz.zeroValue61
  i25 := by kernel_rfl
  t30 := Tryz.underlying25
  a30 := Tryz.isAgg25
  z30 := Tryz.sizeOf25
  v30 := Tryz.zeroValue25
  i30 := by kernel_rfl
  t33 := Tryz.underlying198
  a33 := Tryz.isAgg198
  z33 := Tryz.sizeOf198
  v33 := Tryz.zeroValue198
  i33 := by kernel_rfl
  t66 := Tryz.underlying210
  a66 := Tryz.isAgg210
  z66 := Tryz.sizeOf210
  t68 := Tryz.underlying212
  a68 := Tryz.isAgg212
  z68 := Tryz.sizeOf212
  v68 := Tryz.zeroValue212
  i68 := by kernel_rfl
  t69 := Tryz.underlying213
  a69 := Tryz.isAgg213
  z69 := Tryz.sizeOf213
  v69 := Tryz.zeroValue213
  i69 := by kernel_rfl
  g2 := by kernel_rfl
  g3 := by kernel_rfl }
open Go.RowKit Go.Lib in
theorem Tryz.utf8_DecodeRune (s : ByteArray) (b off cap : Nat) (w : World) (hT : Lib.Utf8Tabs 0 1 w) (hp : ∀ j, j < s.size → w.cell? ⟨b, off + j, none⟩ = some (.int .u8 (s.get! j).toNat)) :
    Calls Tryz.prog 31 #[.slice (some ⟨b, off, none⟩) s.size cap] w fun e w' => e = .returned (.tuple #[.int .i32 (Lib.decodeGo s).1, .int .i64 (Lib.decodeGo s).2]) ∧ Below w.heap.size w w' := Any7.utf8_DecodeRune Tryz.lays32 s b off cap w hT hp
end Go.Proofs
