/- The keys of the maps of mangleLocalCSS. -/
import Derived.Test.YtokehapgddicjaaGreatFmtB5
import Derived.Test.YtokehapgddicjaaGreatFmtMapRun
import Derived.DeepKeys4
import Derived.StringKeys
namespace Go.Proofs.YtokehapgddicjaaGreatFmt
open Go.RowKit
set_option linter.unusedVariables false
set_option linter.unusedSimpArgs false
theorem row44 : (44 : TypeId) < Tryz.prog.types.size := of_decide_eq_true (by kernel_rfl)
theorem wide44 : (match Tryz.prog.underlying 44 with | some (.array _ _) | some (.struct _) => true | _ => false) = true := by rw [Tryz.underlying44]
set_option maxRecDepth 100000 in
theorem K44 : Maps.Keyed Tryz.prog 44 := Maps.Keyed.of_law (deep_law (m := 2) (by omega) (by kernel_rfl) (by kernel_rfl) wide44)
theorem K9 : Maps.Keyed Tryz.prog 9 := Maps.string_keyed Tryz.underlying9
theorem kt44 : Tryz.prog.keyType 44 = true := by kernel_rfl
theorem cells44 : Tryz.prog.cellsOf 44 = 2 := by kernel_rfl
set_option maxRecDepth 20000 in
theorem size_types : ∃ d, Tryz.prog.types.size + 1 = d + 2 := by
  obtain ⟨k, hk⟩ := Nat.exists_eq_add_of_lt row44
  exact ⟨44 + k, by rw [hk]⟩
theorem cells34 : Tryz.prog.cellsOf 34 = 1 := by kernel_rfl
def ref (i : Nat) : Value := .agg #[.int .u32 1, .int .u32 (i : Int)]
theorem ref_inj {i j : Nat} (h : ref i = ref j) : i = j := by
  unfold ref at h
  injection h with h1
  have h2 := congrArg (fun a : Array Value => a[1]?) h1
  exact Int.ofNat_inj.1 (by simpa using h2)
/-- A key that is a struct of two words. -/
theorem two_key {P : Program} {k : TypeId} {f0 f1 : Field} (hu : P.underlying k = some (.struct #[f0, f1])) (h0 : P.underlying f0.type = some (.int .u32)) (h1 : P.underlying f1.type = some (.int .u32)) (n0 : (f0.name != "_") = true) (n1 : (f1.name != "_") = true)
    (c : P.cellsOf k = 2) (c0 : P.cellsOf f0.type = 1) (c1 : P.cellsOf f1.type = 1) (o0 : f0.offset = 0) (o1 : f1.offset = 1) (hk : P.keyType k = true) (d : Nat) (hd : P.types.size + 1 = d + 2) (x y : Int) (hx : (Lit.int .u32 x).wf = true) (hy : (Lit.int .u32 y).wf = true) :
    keyOf P k (.agg #[.int .u32 x, .int .u32 y]) = some (.string (keyBytes [.int .u32 x, .int .u32 y])) := by
  have h3 : (Value.agg #[.int .u32 x, .int .u32 y]).formed P k = true := by simp [Value.formed, hu, c]
  have e0 : P.keyLits (d + 1) f0.type [.int .u32 x] = some [.int .u32 x] := by simp [Program.keyLits, h0, hx]
  have e1 : P.keyLits (d + 1) f1.type [.int .u32 y] = some [.int .u32 y] := by simp [Program.keyLits, h1, hy]
  have e2 : P.keyLits (d + 2) k [.int .u32 x, .int .u32 y] = some [.int .u32 x, .int .u32 y] := by
    unfold Program.keyLits
    simp [hu, c, n0, n1, c0, c1, o0, o1, e0, e1]
  simp [keyOf, hu, hk, h3, hd, e2, Value.cells]
theorem wf_u32' (i : Nat) (hi : i < 4294967296) : (Lit.int .u32 (i : Int)).wf = true := by
  have e1 : IntKind.u32.min = 0 := by decide
  have e2 : IntKind.u32.max = 4294967295 := by decide
  simp only [Lit.wf, e1, e2, Bool.and_eq_true, decide_eq_true_eq]
  omega
theorem ref_key (i : Nat) (hi : i < 4294967296) : ∃ kl, keyOf Tryz.prog 44 (ref i) = some kl := by
  obtain ⟨d, hd⟩ := size_types
  exact ⟨_, two_key Tryz.underlying44 Tryz.underlying34 Tryz.underlying34 (by decide) (by decide) cells44 cells34 cells34 rfl rfl kt44 d hd 1 i (by decide) (wf_u32' i hi)⟩
theorem str_key (s : ByteArray) (h : s.size ≤ 1048576) : keyOf Tryz.prog 9 (.string s) = some (.string s.data.toList) := WideMaps.keyOf_string_mk Tryz.underlying9 (by unfold maxLen; omega)
theorem zero4 (w : World) : (zeroValue 4).run Tryz.prog w = .ok (.bool false) w := by kernel_rfl
theorem run_make_map (w : World) (t k e : TypeId) (ht : Tryz.prog.underlying t = some (.map k e)) : (Instr.makeMap t none).run Tryz.prog w = .ok (.map (some w.heap.size)) (w.alloc (.map #[] 0)) := by
  simp [Instr.makeMap, Result.andThen]
end Go.Proofs.YtokehapgddicjaaGreatFmt
