/- A chunk copied into a variable: the region that draws its order, by its laws (the walk's own unrolling of 22 cells is too much for the kernel). -/
import Derived.Test.YtdoakedpkjlipaaFmtJ8
import Derived.Deep.MidRow
namespace Go.Proofs.YtdoakedpkjlipaaFmt
open Go.RowKit
set_option linter.unusedVariables false
/-- A chunk that carries a path alone. -/
abbrev chunkR (s : ByteArray) : Array Value := #[.string { data := #[] }, .map none, .slice none 0 0, .slice none 0 0, .nilIface, .slice none 0 0, .string s, .slice none 0 0, .nilFunc, .nilFunc, .slice none 0 0, .slice none 0 0, .slice none 0 0, .slice none 0 0, .slice none 0 0, .slice none 0 0, .int .u32 0, .int .u8 0, .int .u64 0, .int .u32 0, .bool false, .bool false]
theorem chunk_one (s : ByteArray) : (chunkR s).all (·.oneCell') = true := by kernel_rfl
theorem chunk_size (s : ByteArray) : (chunkR s).size = 22 := rfl
theorem chunk_info : (Tryf.prog.info? 61).map (·.size) = some 22 := by kernel_rfl
def regionOf (n : Nat) : Code → Option Code
  | .region i ops d => if i = n then some (.region i ops d) else none
  | .loop c => regionOf n c
  | .seq a b => match regionOf n a with
    | some c => some c
    | none => regionOf n b
  | .block _ c => regionOf n c
  | .scope c => regionOf n c
  | .cond _ a b => match regionOf n a with
    | some c => some c
    | none => regionOf n b
  | _ => none
noncomputable def r27 : Code := ((Tryf.f16.body.bind (regionOf 27)).getD .skip)
set_option maxRecDepth 100000 in
set_option maxHeartbeats 1000000 in
theorem r27_wp (c m cc cb co idx P : Nat) (R : Nat → ByteArray) (u1 u2 u3 u4 u5 u6 u7 u8 u9 u11 u12 u13 u14 u15 u16 u17 u18 u19 u20 u21 u22 u23 u24 u25 u26 u27 u28 u29 u30 u31 u32 u33 u34 u35 u36 u37 u38 u39 u40 u41 u42 u43 u44 u45 u46 u47 u48 u49 u50 u51 u52 u53 u54 u55 u56 u57 u58 u59 u60 u61 u62 u63 u64 u65 u66 u67 u68 u69 u70 u71 u72 u73 u74 u75 u76 u77 u78 u79 u80 u81 u82 u83 u84 u85 u86 u87 u88 u89 u90 u91 u92 u93 u94 u95 u96 u97 u98 u99 u100 u101 u102 u103 u104 u105 u106 u107 u108 u109 u110 u111 u112 u113 u114 u115 u116 u117 u118 u119 u120 u121 u122 u123 u124 u125 u126 u127 u128 u129 u130 u131 u132 u133 u134 u135 u136 u137 u138 u139 u140 : Value) (Q : Exit → Act → World → Prop) (w : World) (hch : w.cell? ⟨c, 17, none⟩ = some (.slice (some ⟨cb, co, none⟩) m cc)) (hP : w.cell? ⟨P, 1, none⟩ = some (.int .u32 idx)) (hm : m ≤ 1048576)
    (hr : w.rangeAt cb (co + idx * 22) (chunkR (R idx)).toList) (hidx : idx < m)
    (hQ : ∀ w', w'.heap[w.heap.size]? = some (.cells (chunkR (R idx)) 61 (0, 0)) → Below w.heap.size w w' → Q .normal ⟨#[.pointer (some ⟨c, 0, none⟩), u1, u2, u3, u4, u5, u6, u7, u8, u9, .pointer (some ⟨P, 0, none⟩), u11, u12, u13, u14, u15, .pointer (some ⟨w.heap.size, 0, none⟩), u17, u18, u19, u20, u21, u22, u23, u24, u25, u26, u27, u28, u29, u30, u31, u32, u33, u34, u35, u36, u37, u38, u39, u40, u41, u42, u43, u44, u45, u46, u47, u48, u49, u50, u51, u52, u53, u54, u55, u56, u57, u58, u59, u60, u61, u62, u63, u64, u65, u66, u67, u68, u69, u70, u71, u72, u73, u74, u75, u76, u77, u78, u79, u80, u81, u82, u83, u84, u85, u86, u87, u88, u89, u90, u91, u92, u93, u94, u95, u96, u97, u98, u99, u100, u101, u102, u103, u104, u105, u106, u107, u108, u109, u110, u111, u112, u113, u114, .pointer (some ⟨c, 0, none⟩), .pointer (some ⟨c, 0, none⟩), .pointer (some ⟨c, 17, none⟩), .slice (some ⟨cb, co, none⟩) m cc, .pointer (some ⟨P, 1, none⟩), .int .u32 idx, .pointer (some ⟨cb, co + idx * 22, none⟩), .agg (chunkR (R idx)), u123, u124, u125, u126, u127, u128, u129, u130, u131, u132, u133, u134, u135, u136, u137, u138, u139, u140], []⟩ w') : Code.wp Tryf.prog r27 Q ⟨#[.pointer (some ⟨c, 0, none⟩), u1, u2, u3, u4, u5, u6, u7, u8, u9, .pointer (some ⟨P, 0, none⟩), u11, u12, u13, u14, u15, u16, u17, u18, u19, u20, u21, u22, u23, u24, u25, u26, u27, u28, u29, u30, u31, u32, u33, u34, u35, u36, u37, u38, u39, u40, u41, u42, u43, u44, u45, u46, u47, u48, u49, u50, u51, u52, u53, u54, u55, u56, u57, u58, u59, u60, u61, u62, u63, u64, u65, u66, u67, u68, u69, u70, u71, u72, u73, u74, u75, u76, u77, u78, u79, u80, u81, u82, u83, u84, u85, u86, u87, u88, u89, u90, u91, u92, u93, u94, u95, u96, u97, u98, u99, u100, u101, u102, u103, u104, u105, u106, u107, u108, u109, u110, u111, u112, u113, u114, u115, u116, u117, u118, u119, u120, u121, u122, u123, u124, u125, u126, u127, u128, u129, u130, u131, u132, u133, u134, u135, u136, u137, u138, u139, u140], []⟩ w := by
  have HQ := Lib.hid hQ
  clear hQ
  have hi0 : (0 : Int) ≤ (idx : Int) := by omega
  have hi1 : (idx : Int) < (m : Int) := by omega
  have hcl := block_lt_of_cell hch
  have hpl := block_lt_of_cell hP
  have hcbl : cb < w.heap.size := block_lt_of_cell (hr 0 _ rfl)
  conv => arg 2; whnf
  refine wp_region_noPanic ?_
  have hS0 : (fun w' : World => Below w.heap.size w w') w.drew := (Below.refl _ _).drew
  have SC : ∀ w' : World, Below w.heap.size w w' → w'.cell? ⟨c, 17, none⟩ = some (.slice (some ⟨cb, co, none⟩) m cc) := fun w' h => (h.cell hcl).trans hch
  have SP : ∀ w' : World, Below w.heap.size w w' → w'.cell? ⟨P, 1, none⟩ = some (.int .u32 idx) := fun w' h => (h.cell hpl).trans hP
  have SR : ∀ w' : World, Below w.heap.size w w' → w'.rangeAt cb (co + idx * 22) (chunkR (R idx)).toList := fun w' h j v hj => (h.cell (p := ⟨cb, co + idx * 22 + j, none⟩) hcbl).trans (hr j v hj)
  have HSR := Lib.hid SR
  clear hr SR
  refine wp_region_held_drew (S := fun w' => Below w.heap.size w w') (by kernel_rfl) hS0 (fun hHeld => ?_)
  refine wpAnyH_take (i := 0) (oi := { dst := some 115, op := Op.move (Operand.tmp 0), type := 33, pos := "linker.go:839", after := #[], guard := none }) (v := .pointer (some ⟨c, 0, none⟩)) rfl (by kernel_rfl) (by kernel_rfl) (by kernel_rfl) (fun _ _ _ h => h) (Or.inl ⟨by rfl, ?_⟩) hS0 ?_
  · intro wx hwx
    have sc := SC wx hwx
    have sp := SP wx hwx
    have scl := block_lt_of_cell sc
    have spl := block_lt_of_cell sp
    clear SC SP hHeld hS0 hwx
    go_simp
  simp only [Act.put, List.setIfInBounds_toArray, List.set_cons_zero, List.set_cons_succ]
  refine wpAnyH_take (i := 1) (oi := { dst := some 116, op := Op.nilCheck (Operand.tmp 115), type := 0, pos := "linker.go:839", after := #[{ on := 0, ground := Ground.data }], guard := none }) (v := .pointer (some ⟨c, 0, none⟩)) rfl (by kernel_rfl) (by kernel_rfl) (by kernel_rfl) (fun _ _ _ h => h) (Or.inl ⟨by rfl, ?_⟩) hS0 ?_
  · intro wx hwx
    have sc := SC wx hwx
    have sp := SP wx hwx
    have scl := block_lt_of_cell sc
    have spl := block_lt_of_cell sp
    clear SC SP hHeld hS0 hwx
    go_simp
  simp only [Act.put, List.setIfInBounds_toArray, List.set_cons_zero, List.set_cons_succ]
  refine wpAnyH_take (i := 2) (oi := { dst := some 117, op := Op.fieldAddr 144 (Operand.tmp 116) 6, type := 0, pos := "linker.go:839", after := #[{ on := 1, ground := Ground.data }], guard := none }) (v := .pointer (some ⟨c, 17, none⟩)) rfl (by kernel_rfl) (by kernel_rfl) (by kernel_rfl) (fun _ _ _ h => h) (Or.inl ⟨by rfl, ?_⟩) hS0 ?_
  · intro wx hwx
    have sc := SC wx hwx
    have sp := SP wx hwx
    have scl := block_lt_of_cell sc
    have spl := block_lt_of_cell sp
    clear SC SP hHeld hS0 hwx
    go_simp
  simp only [Act.put, List.setIfInBounds_toArray, List.set_cons_zero, List.set_cons_succ]
  refine wpAnyH_take (i := 3) (oi := { dst := some 118, op := Op.load 47 (Operand.tmp 117), type := 47, pos := "linker.go:839", after := #[{ on := 2, ground := Ground.data }], guard := none }) (v := .slice (some ⟨cb, co, none⟩) m cc) rfl (by kernel_rfl) (by kernel_rfl) (by kernel_rfl) (fun _ _ _ h => h) (Or.inl ⟨by rfl, ?_⟩) hS0 ?_
  · intro wx hwx
    have sc := SC wx hwx
    have sp := SP wx hwx
    have scl := block_lt_of_cell sc
    have spl := block_lt_of_cell sp
    clear SC SP hHeld hS0 hwx
    go_simp
  simp only [Act.put, List.setIfInBounds_toArray, List.set_cons_zero, List.set_cons_succ]
  refine wpAnyH_take (i := 4) (oi := { dst := some 119, op := Op.fieldAddr 147 (Operand.tmp 10) 1, type := 0, pos := "linker.go:839", after := #[], guard := none }) (v := .pointer (some ⟨P, 1, none⟩)) rfl (by kernel_rfl) (by kernel_rfl) (by kernel_rfl) (fun _ _ _ h => h) (Or.inl ⟨by rfl, ?_⟩) hS0 ?_
  · intro wx hwx
    have sc := SC wx hwx
    have sp := SP wx hwx
    have scl := block_lt_of_cell sc
    have spl := block_lt_of_cell sp
    clear SC SP hHeld hS0 hwx
    go_simp
  simp only [Act.put, List.setIfInBounds_toArray, List.set_cons_zero, List.set_cons_succ]
  refine wpAnyH_take (i := 5) (oi := { dst := some 120, op := Op.load 38 (Operand.tmp 119), type := 38, pos := "linker.go:839", after := #[{ on := 4, ground := Ground.data }], guard := none }) (v := .int .u32 idx) rfl (by kernel_rfl) (by kernel_rfl) (by kernel_rfl) (fun _ _ _ h => h) (Or.inl ⟨by rfl, ?_⟩) hS0 ?_
  · intro wx hwx
    have sc := SC wx hwx
    have sp := SP wx hwx
    have scl := block_lt_of_cell sc
    have spl := block_lt_of_cell sp
    clear SC SP hHeld hS0 hwx
    go_simp
  simp only [Act.put, List.setIfInBounds_toArray, List.set_cons_zero, List.set_cons_succ]
  refine wpAnyH_take (i := 6) (oi := { dst := some 121, op := Op.indexAddr 47 (Operand.tmp 118) (Operand.tmp 120), type := 0, pos := "linker.go:839", after := #[{ on := 3, ground := Ground.data }, { on := 5, ground := Ground.data }], guard := none }) (v := .pointer (some ⟨cb, co + idx * 22, none⟩)) rfl (by kernel_rfl) (by kernel_rfl) (by kernel_rfl) (fun _ _ _ h => h) (Or.inl ⟨by rfl, ?_⟩) hS0 ?_
  · intro wx hwx
    have sc := SC wx hwx
    have sp := SP wx hwx
    have scl := block_lt_of_cell sc
    have spl := block_lt_of_cell sp
    clear SC SP hHeld hS0 hwx
    go_simp
  simp only [Act.put, List.setIfInBounds_toArray, List.set_cons_zero, List.set_cons_succ]
  refine wpAnyH_take (i := 7) (oi := { dst := some 122, op := Op.load 61 (Operand.tmp 121), type := 61, pos := "linker.go:839", after := #[{ on := 6, ground := Ground.data }], guard := none }) (v := .agg (chunkR (R idx))) rfl (by kernel_rfl) (by kernel_rfl) (by kernel_rfl) (fun _ _ _ h => h) (yieldsIf_load_mid (by rfl) 61 (.tmp 121) rfl cb (co + idx * 22) rfl (chunkR (R idx)).toList _ (fun wx hwx => HSR.out wx hwx) Tryf.underlying61 rfl (by exact chunk_info)) hS0 ?_
  simp only [Act.put, List.setIfInBounds_toArray, List.set_cons_zero, List.set_cons_succ]
  refine wpAnyH_ready (rs := [8]) (by kernel_rfl) (by simp) ?_
  refine AllReadyH.cons (o := { dst := some 16, op := Op.alloc 61, type := 0, pos := "linker.go:839", after := #[], guard := none }) rfl (fun K hK => ?_) AllReadyH.nil
  clear SC SP hHeld hS0
  go_simp
  have hz := heap_alloc_new w (.cells (chunkR ByteArray.empty) 61)
  have hbz : Below w.heap.size w (w.alloc (.cells (chunkR ByteArray.empty) 61)).drew := ((Below.refl _ _).alloc (Nat.le_refl _) _).drew
  have HZ := Lib.hid hz
  refine hK.out _ _ ?_ (fun hHeld => ?_)
  · exact hbz
  clear hK K hHeld
  refine wpAnyH_ready (rs := [9]) (by kernel_rfl) (by simp) ?_
  refine AllReadyH.cons (o := { dst := none, op := Op.store 61 (Operand.tmp 16) (Operand.tmp 122), type := 0, pos := "linker.go:839", after := #[{ on := 8, ground := Ground.data }, { on := 7, ground := Ground.data }, { on := 0, ground := Ground.phase }, { on := 1, ground := Ground.phase }, { on := 2, ground := Ground.phase }, { on := 3, ground := Ground.phase }, { on := 4, ground := Ground.phase }, { on := 5, ground := Ground.phase }, { on := 6, ground := Ground.phase }, { on := 7, ground := Ground.phase }, { on := 8, ground := Ground.phase }], guard := none }) rfl (fun K hK => ?_) AllReadyH.nil
  rw [if_pos (by rfl)]
  refine wp_store_mid 61 (.tmp 16) (.tmp 122) rfl w.heap.size 0 (chunkR (R idx)) rfl rfl ?_ chunk_info (chunk_one _) ?_
  · intro j hj
    rw [chunk_size] at hj
    rw [Nat.zero_add]
    refine ⟨?_, frozen_of_row _ _ _ _ _ HZ.out⟩
    have e := cell_of_row _ _ j _ _ _ HZ.out
    have e2 : (w.alloc (.cells (chunkR ByteArray.empty) 61)).drew.cell? ⟨w.heap.size, j, none⟩ = (chunkR ByteArray.empty)[j]? := e
    exact (congrArg Option.isSome e2).trans (by rw [Array.getElem?_eq_getElem (by rw [chunk_size]; exact hj)]; rfl)
  have hset := heap_setCells (chunkR (R idx)).toList 0 ((w.alloc (.cells (chunkR ByteArray.empty) 61)).drew) (chunkR ByteArray.empty).toList HZ.out (by simp)
  have hbel := below_setCells (b := w.heap.size) (Nat.le_refl _) (chunkR (R idx)).toList 0 _ hbz
  have HSET := Lib.hid hset
  have HBEL := Lib.hid hbel
  clear hset hbel
  refine hK.out _ _ ?_ (fun hHeld => ?_)
  · exact HBEL.out
  clear hK K hHeld
  refine wpAnyH_done (by kernel_rfl) ?_ _
  refine NoPanic.normal ?_
  exact HQ.out _ HSET.out HBEL.out
end Go.Proofs.YtdoakedpkjlipaaFmt
