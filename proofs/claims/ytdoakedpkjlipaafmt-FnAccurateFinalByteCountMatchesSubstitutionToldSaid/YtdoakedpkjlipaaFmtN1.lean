/- The count of a chunk's bytes walked: its region that copies a chunk, its loop, its wrapper. -/
import Derived.Test.YtdoakedpkjlipaaFmtJ11
import Derived.Deep.MidRow
namespace Go.Proofs.YtdoakedpkjlipaaFmt
open Go.RowKit
set_option linter.unusedVariables false
noncomputable def r16 : Code := ((Tryf.f15.body.bind (regionOf 16)).getD .skip)
set_option maxRecDepth 100000 in
set_option maxHeartbeats 1000000 in
theorem r16_wp (c m cc cb co idx P : Nat) (R : Nat → ByteArray) (u1 u2 u3 u4 u5 u6 u7 u8 u10 u11 u12 u13 u14 u15 u16 u17 u18 u19 u20 u21 u22 u23 u24 u25 u26 u27 u28 u29 u30 u31 u32 u33 u34 u35 u36 u37 u38 u39 u40 u41 u42 u43 u44 u45 u46 u47 u48 u49 u50 u51 u52 u53 u54 u55 u56 u57 u58 u59 u60 u61 u62 u63 u64 u65 u66 u67 u68 u69 u70 u71 u72 u73 u74 u75 u76 u77 u78 u79 u80 u81 u82 u83 u84 u85 u86 u87 u88 u89 u90 u91 u92 u93 u94 u95 u96 u97 u98 u99 u100 : Value) (Q : Exit → Act → World → Prop) (w : World) (hch : w.cell? ⟨c, 17, none⟩ = some (.slice (some ⟨cb, co, none⟩) m cc)) (hP : w.cell? ⟨P, 1, none⟩ = some (.int .u32 idx)) (hm : m ≤ 1048576)
    (hr : w.rangeAt cb (co + idx * 22) (chunkR (R idx)).toList) (hidx : idx < m)
    (hQ : ∀ w', w'.heap[w.heap.size]? = some (.cells (chunkR (R idx)) 61 (0, 0)) → Below w.heap.size w w' → Q .normal ⟨#[.pointer (some ⟨c, 0, none⟩), u1, u2, u3, u4, u5, u6, u7, u8, .pointer (some ⟨P, 0, none⟩), u10, u11, u12, u13, .pointer (some ⟨w.heap.size, 0, none⟩), u15, u16, u17, u18, u19, u20, u21, u22, u23, u24, u25, u26, u27, u28, u29, u30, u31, u32, u33, u34, u35, u36, u37, u38, u39, u40, u41, u42, u43, u44, u45, u46, u47, u48, u49, u50, u51, u52, u53, u54, u55, u56, u57, u58, u59, u60, u61, u62, u63, u64, u65, u66, u67, u68, u69, u70, u71, u72, u73, u74, u75, u76, u77, u78, u79, u80, u81, .pointer (some ⟨c, 0, none⟩), .pointer (some ⟨c, 0, none⟩), .pointer (some ⟨c, 17, none⟩), .slice (some ⟨cb, co, none⟩) m cc, .pointer (some ⟨P, 1, none⟩), .int .u32 idx, .pointer (some ⟨cb, co + idx * 22, none⟩), .agg (chunkR (R idx)), u90, u91, u92, u93, u94, u95, u96, u97, u98, u99, u100], []⟩ w') : Code.wp Tryf.prog r16 Q ⟨#[.pointer (some ⟨c, 0, none⟩), u1, u2, u3, u4, u5, u6, u7, u8, .pointer (some ⟨P, 0, none⟩), u10, u11, u12, u13, u14, u15, u16, u17, u18, u19, u20, u21, u22, u23, u24, u25, u26, u27, u28, u29, u30, u31, u32, u33, u34, u35, u36, u37, u38, u39, u40, u41, u42, u43, u44, u45, u46, u47, u48, u49, u50, u51, u52, u53, u54, u55, u56, u57, u58, u59, u60, u61, u62, u63, u64, u65, u66, u67, u68, u69, u70, u71, u72, u73, u74, u75, u76, u77, u78, u79, u80, u81, u82, u83, u84, u85, u86, u87, u88, u89, u90, u91, u92, u93, u94, u95, u96, u97, u98, u99, u100], []⟩ w := by
  have HQ := Lib.hid hQ
  clear hQ
  have hi0 : (0 : Int) ≤ (idx : Int) := by omega
  have hi1 : (idx : Int) < (m : Int) := by omega
  have hcl := block_lt_of_cell hch
  have hpl := block_lt_of_cell hP
  have hcbl : cb < w.heap.size := block_lt_of_cell (hr 0 _ rfl)
  conv => arg 2; whnf
  refine wp_region_noPanic ?_
  have hS0 : (fun w' : World => Below w.heap.size w w') w.drew := (Below.refl _ _).drew
  have SC : ∀ w' : World, Below w.heap.size w w' → w'.cell? ⟨c, 17, none⟩ = some (.slice (some ⟨cb, co, none⟩) m cc) := fun w' h => (h.cell hcl).trans hch
  have SP : ∀ w' : World, Below w.heap.size w w' → w'.cell? ⟨P, 1, none⟩ = some (.int .u32 idx) := fun w' h => (h.cell hpl).trans hP
  have SR : ∀ w' : World, Below w.heap.size w w' → w'.rangeAt cb (co + idx * 22) (chunkR (R idx)).toList := fun w' h j v hj => (h.cell (p := ⟨cb, co + idx * 22 + j, none⟩) hcbl).trans (hr j v hj)
  have HSR := Lib.hid SR
  clear hr SR
  refine wp_region_held_drew (S := fun w' => Below w.heap.size w w') (by kernel_rfl) hS0 (fun hHeld => ?_)
  refine wpAnyH_take (i := 0) (oi := { dst := some 82, op := Op.move (Operand.tmp 0), type := 33, pos := "linker.go:873", after := #[], guard := none }) (v := .pointer (some ⟨c, 0, none⟩)) rfl (by kernel_rfl) (by kernel_rfl) (by kernel_rfl) (fun _ _ _ h => h) (Or.inl ⟨by rfl, ?_⟩) hS0 ?_
  · intro wx hwx
    have sc := SC wx hwx
    have sp := SP wx hwx
    have scl := block_lt_of_cell sc
    have spl := block_lt_of_cell sp
    clear SC SP hHeld hS0 hwx
    go_simp
  simp only [Act.put, List.setIfInBounds_toArray, List.set_cons_zero, List.set_cons_succ]
  refine wpAnyH_take (i := 1) (oi := { dst := some 83, op := Op.nilCheck (Operand.tmp 82), type := 0, pos := "linker.go:873", after := #[{ on := 0, ground := Ground.data }], guard := none }) (v := .pointer (some ⟨c, 0, none⟩)) rfl (by kernel_rfl) (by kernel_rfl) (by kernel_rfl) (fun _ _ _ h => h) (Or.inl ⟨by rfl, ?_⟩) hS0 ?_
  · intro wx hwx
    have sc := SC wx hwx
    have sp := SP wx hwx
    have scl := block_lt_of_cell sc
    have spl := block_lt_of_cell sp
    clear SC SP hHeld hS0 hwx
    go_simp
  simp only [Act.put, List.setIfInBounds_toArray, List.set_cons_zero, List.set_cons_succ]
  refine wpAnyH_take (i := 2) (oi := { dst := some 84, op := Op.fieldAddr 144 (Operand.tmp 83) 6, type := 0, pos := "linker.go:873", after := #[{ on := 1, ground := Ground.data }], guard := none }) (v := .pointer (some ⟨c, 17, none⟩)) rfl (by kernel_rfl) (by kernel_rfl) (by kernel_rfl) (fun _ _ _ h => h) (Or.inl ⟨by rfl, ?_⟩) hS0 ?_
  · intro wx hwx
    have sc := SC wx hwx
    have sp := SP wx hwx
    have scl := block_lt_of_cell sc
    have spl := block_lt_of_cell sp
    clear SC SP hHeld hS0 hwx
    go_simp
  simp only [Act.put, List.setIfInBounds_toArray, List.set_cons_zero, List.set_cons_succ]
  refine wpAnyH_take (i := 3) (oi := { dst := some 85, op := Op.load 47 (Operand.tmp 84), type := 47, pos := "linker.go:873", after := #[{ on := 2, ground := Ground.data }], guard := none }) (v := .slice (some ⟨cb, co, none⟩) m cc) rfl (by kernel_rfl) (by kernel_rfl) (by kernel_rfl) (fun _ _ _ h => h) (Or.inl ⟨by rfl, ?_⟩) hS0 ?_
  · intro wx hwx
    have sc := SC wx hwx
    have sp := SP wx hwx
    have scl := block_lt_of_cell sc
    have spl := block_lt_of_cell sp
    clear SC SP hHeld hS0 hwx
    go_simp
  simp only [Act.put, List.setIfInBounds_toArray, List.set_cons_zero, List.set_cons_succ]
  refine wpAnyH_take (i := 4) (oi := { dst := some 86, op := Op.fieldAddr 147 (Operand.tmp 9) 1, type := 0, pos := "linker.go:873", after := #[], guard := none }) (v := .pointer (some ⟨P, 1, none⟩)) rfl (by kernel_rfl) (by kernel_rfl) (by kernel_rfl) (fun _ _ _ h => h) (Or.inl ⟨by rfl, ?_⟩) hS0 ?_
  · intro wx hwx
    have sc := SC wx hwx
    have sp := SP wx hwx
    have scl := block_lt_of_cell sc
    have spl := block_lt_of_cell sp
    clear SC SP hHeld hS0 hwx
    go_simp
  simp only [Act.put, List.setIfInBounds_toArray, List.set_cons_zero, List.set_cons_succ]
  refine wpAnyH_take (i := 5) (oi := { dst := some 87, op := Op.load 38 (Operand.tmp 86), type := 38, pos := "linker.go:873", after := #[{ on := 4, ground := Ground.data }], guard := none }) (v := .int .u32 idx) rfl (by kernel_rfl) (by kernel_rfl) (by kernel_rfl) (fun _ _ _ h => h) (Or.inl ⟨by rfl, ?_⟩) hS0 ?_
  · intro wx hwx
    have sc := SC wx hwx
    have sp := SP wx hwx
    have scl := block_lt_of_cell sc
    have spl := block_lt_of_cell sp
    clear SC SP hHeld hS0 hwx
    go_simp
  simp only [Act.put, List.setIfInBounds_toArray, List.set_cons_zero, List.set_cons_succ]
  refine wpAnyH_take (i := 6) (oi := { dst := some 88, op := Op.indexAddr 47 (Operand.tmp 85) (Operand.tmp 87), type := 0, pos := "linker.go:873", after := #[{ on := 3, ground := Ground.data }, { on := 5, ground := Ground.data }], guard := none }) (v := .pointer (some ⟨cb, co + idx * 22, none⟩)) rfl (by kernel_rfl) (by kernel_rfl) (by kernel_rfl) (fun _ _ _ h => h) (Or.inl ⟨by rfl, ?_⟩) hS0 ?_
  · intro wx hwx
    have sc := SC wx hwx
    have sp := SP wx hwx
    have scl := block_lt_of_cell sc
    have spl := block_lt_of_cell sp
    clear SC SP hHeld hS0 hwx
    go_simp
  simp only [Act.put, List.setIfInBounds_toArray, List.set_cons_zero, List.set_cons_succ]
  refine wpAnyH_take (i := 7) (oi := { dst := some 89, op := Op.load 61 (Operand.tmp 88), type := 61, pos := "linker.go:873", after := #[{ on := 6, ground := Ground.data }], guard := none }) (v := .agg (chunkR (R idx))) rfl (by kernel_rfl) (by kernel_rfl) (by kernel_rfl) (fun _ _ _ h => h) (yieldsIf_load_mid (by rfl) 61 (.tmp 88) rfl cb (co + idx * 22) rfl (chunkR (R idx)).toList _ (fun wx hwx => HSR.out wx hwx) Tryf.underlying61 rfl (by exact chunk_info)) hS0 ?_
  simp only [Act.put, List.setIfInBounds_toArray, List.set_cons_zero, List.set_cons_succ]
  refine wpAnyH_ready (rs := [8]) (by kernel_rfl) (by simp) ?_
  refine AllReadyH.cons (o := { dst := some 14, op := Op.alloc 61, type := 0, pos := "linker.go:873", after := #[], guard := none }) rfl (fun K hK => ?_) AllReadyH.nil
  clear SC SP hHeld hS0
  go_simp
  have hz := heap_alloc_new w (.cells (chunkR ByteArray.empty) 61)
  have hbz : Below w.heap.size w (w.alloc (.cells (chunkR ByteArray.empty) 61)).drew := ((Below.refl _ _).alloc (Nat.le_refl _) _).drew
  have HZ := Lib.hid hz
  refine hK.out _ _ ?_ (fun hHeld => ?_)
  · exact hbz
  clear hK K hHeld
  refine wpAnyH_ready (rs := [9]) (by kernel_rfl) (by simp) ?_
  refine AllReadyH.cons (o := { dst := none, op := Op.store 61 (Operand.tmp 14) (Operand.tmp 89), type := 0, pos := "linker.go:873", after := #[{ on := 8, ground := Ground.data }, { on := 7, ground := Ground.data }, { on := 0, ground := Ground.phase }, { on := 1, ground := Ground.phase }, { on := 2, ground := Ground.phase }, { on := 3, ground := Ground.phase }, { on := 4, ground := Ground.phase }, { on := 5, ground := Ground.phase }, { on := 6, ground := Ground.phase }, { on := 7, ground := Ground.phase }, { on := 8, ground := Ground.phase }], guard := none }) rfl (fun K hK => ?_) AllReadyH.nil
  rw [if_pos (by rfl)]
  refine wp_store_mid 61 (.tmp 14) (.tmp 89) rfl w.heap.size 0 (chunkR (R idx)) rfl rfl ?_ chunk_info (chunk_one _) ?_
  · intro j hj
    rw [chunk_size] at hj
    rw [Nat.zero_add]
    refine ⟨?_, frozen_of_row _ _ _ _ _ HZ.out⟩
    have e := cell_of_row _ _ j _ _ _ HZ.out
    have e2 : (w.alloc (.cells (chunkR ByteArray.empty) 61)).drew.cell? ⟨w.heap.size, j, none⟩ = (chunkR ByteArray.empty)[j]? := e
    exact (congrArg Option.isSome e2).trans (by rw [Array.getElem?_eq_getElem (by rw [chunk_size]; exact hj)]; rfl)
  have hset := heap_setCells (chunkR (R idx)).toList 0 ((w.alloc (.cells (chunkR ByteArray.empty) 61)).drew) (chunkR ByteArray.empty).toList HZ.out (by simp)
  have hbel := below_setCells (b := w.heap.size) (Nat.le_refl _) (chunkR (R idx)).toList 0 _ hbz
  have HSET := Lib.hid hset
  have HBEL := Lib.hid hbel
  clear hset hbel
  refine hK.out _ _ ?_ (fun hHeld => ?_)
  · exact HBEL.out
  clear hK K hHeld
  refine wpAnyH_done (by kernel_rfl) ?_ _
  refine NoPanic.normal ?_
  exact HQ.out _ HSET.out HBEL.out
set_option maxRecDepth 100000 in
set_option maxHeartbeats 2000000 in
theorem acc_any (F : Stop.Interp) (c o m cc n pc : Nat) (pub dir : ByteArray) (ps : List PD) (pa ca : Option Addr) (R : Nat → ByteArray) (w : World) (hF : F.told.answers w.tape)
    (hp : pub.size ≤ 1048576) (hp0 : pub.toList.isEmpty = false) (hR : ∀ j, j < m → (R j).size ≤ 1048576) (hc : CtxAt w c o pub) (hch : w.cell? ⟨c, 17, none⟩ = some (.slice ca m cc)) (hcs : ChunksAt w ca m R) (hm : m ≤ 1048576)
    (hps : Pieces w pa n m ps) (hpa : pa.isSome = true) (hn : n ≤ 4096) (hout : (outOf pub R ps).length ≤ 1048576) :
    Calls Tryf.prog 15 #[.pointer (some ⟨c, 0, none⟩), .agg #[.slice pa n pc, .slice none 0 0, .slice none 0 0, .int .u32 0, .int .u8 0], .string dir] w (fun e w' => e = .returned (.int .i64 (outOf pub R ps).length) ∧ Below w.heap.size w w') := by
  obtain ⟨pa, rfl⟩ := Option.isSome_iff_exists.1 hpa
  have HC := Lib.hid hc
  have HCH := Lib.hid hch
  have HCS := Lib.hid hcs
  have HPS := Lib.hid hps
  have HR := Lib.hid hR
  have HF := Lib.hid hF
  clear hF hc hch hcs hps hR hpa
  go_enter Tryf.func15, Tryf.ntmps15
  go_wp2_with fail
  go_loopw [7, 19] (fun v z wr => ∃ k : Nat, z = .int .i64 k ∧ k ≤ n ∧ v = .int .i64 (outOf pub R (ps.take k)).length ∧ Below w.heap.size w wr) (fun _ z _ => n - (intOf z).toNat)
  case atStart => exact ⟨0, rfl, Nat.zero_le _, rfl, (Below.refl _ _).alloc (Nat.le_refl _) _⟩
  case round =>
    obtain ⟨k, rfl, hkn, rfl, hb⟩ := hrel
    by_cases hlt : k < n
    · have hlen := HPS.out.len
      have hkp : k < ps.length := by omega
      have hok := HPS.out.ok ps[k] (List.getElem_mem hkp)
      have hget := cellsP_get ps k ps[k] (List.getElem?_eq_getElem hkp)
      obtain ⟨pb, po, hpa, hpl, hcell⟩ := (HPS.out.row.below hb).blk (by omega)
      have c0 := hcell (k * 3) (by omega)
      have c1 := hcell (k * 3 + 1) (by omega)
      have c2 := hcell (k * 3 + 2) (by omega)
      rw [hget.1] at c0
      rw [hget.2.1, ← Nat.add_assoc] at c1
      rw [hget.2.2, ← Nat.add_assoc] at c2
      simp only [Option.some.injEq] at hpa
      subst hpa
      have htk : ps.take (k + 1) = ps.take k ++ [ps[k]] := List.take_succ_eq_append_getElem hkp
      have hol : (outOf pub R (ps.take k)).length + ps[k].n + (ps[k].text pub R).length ≤ 1048576 := by
        rw [outOf_split pub R ps (k + 1), htk, outOf_snoc] at hout
        simp only [List.length_append, bytes_len] at hout
        omega
      have HTK := Lib.hid htk
      have HOK := Lib.hid hok
      have HB := Lib.hid hb
      have hbs := hb.size
      clear hok hget hcell htk hb hlen
      generalize ps[k] = p at *
      clear hkp
      generalize hokk : outOf pub R (ps.take k) = ok at *
      have HSK := Lib.hid hokk
      clear hokk
      obtain ⟨da, dn, dc, dd, idx, kd⟩ := p
      simp only at c0 c1 c2 hol
      have kd1 : ((kd : Int) == 1) = false := by have h9 : kd ≠ 1 := HOK.out.2.2.2.2.1; simp; omega
      by_cases hkd : kd = 2
      · subst hkd
        have hidx : idx < m := HOK.out.2.2.2.2.2.2.1 rfl
        obtain ⟨cb, co, hca, hcc⟩ := HCS.out (by omega)
        subst hca
        have HBX := Lib.hid (fun ob => HB.out.alloc HB.out.size ob)
        have HCC := Lib.hid hcc
        have hRi : (R idx).size ≤ 1048576 := HR.out idx hidx
        have hjs := joinB_size pub (R idx)
        have hjl : (joinL pub.data.toList (R idx).data.toList).length = (joinB pub (R idx)).size := by rw [← joinB_list, size_list]
        have HJL := Lib.hid hjl
        have hjol : ok.length + dn + (joinB pub (R idx)).size ≤ 1048576 := by
          have h9 := hol
          simp only [PD.text, if_pos] at h9
          rw [HJL.out] at h9
          exact h9
        clear hjl hcc
        go_upto_region 16 with fail
        have hP0 := heap_alloc_new wr (.cells #[.slice da dn dc, .int .u32 idx, .int .u8 2] 147)
        obtain ⟨p60, p61, p62, pl6⟩ := pcells hP0
        refine r16_wp c m cc cb co idx wr.heap.size R _ _ _ _ _ _ _ _ _ _ _ _ _ _ _ _ _ _ _ _ _ _ _ _ _ _ _ _ _ _ _ _ _ _ _ _ _ _ _ _ _ _ _ _ _ _ _ _ _ _ _ _ _ _ _ _ _ _ _ _ _ _ _ _ _ _ _ _ _ _ _ _ _ _ _ _ _ _ _ _ _ _ _ _ _ _ _ _ _ _ _ _ _ _ _ _ _ _ _ _ (wr.alloc (.cells #[.slice da dn dc, .int .u32 idx, .int .u8 2] 147)) (((HBX.out _).cell (block_lt_of_cell HCH.out)).trans HCH.out) p61 hm ?_ hidx ?_
        · intro j v hj
          have hj' : j < 22 := (List.getElem?_eq_some_iff.1 hj).1
          have h9 := (HCC.out idx hidx j hj').trans ((Array.getElem?_toList).symm.trans hj)
          exact ((HBX.out _).cell (block_lt_of_cell h9)).trans h9
        intro w7 hC7 hb7
        have hb7' := (HBX.out (.cells #[.slice da dn dc, .int .u32 idx, .int .u8 2] 147)).trans (hb7.mono (HBX.out _).size)
        have c76 := cell_of_row _ _ 6 _ _ _ hC7
        have c76' : w7.cell? ⟨(wr.alloc (.cells #[.slice da dn dc, .int .u32 idx, .int .u8 2] 147)).heap.size, 6, none⟩ = some (.string (R idx)) := c76
        have cl7 := (Array.getElem?_eq_some_iff.1 hC7).1
        have HB7 := Lib.hid hb7'
        clear hC7 hb7 c76 hb7' p60 p61 p62 pl6 hP0
        generalize (wr.alloc (.cells #[.slice da dn dc, .int .u32 idx, .int .u8 2] 147)).heap.size = gb at *
        go_wp2_with fail
        refine (path_any F c o pub dir (R idx) w7 (by rw [HB7.out.tape]; exact HF.out) hp hp0 hRi (HC.out.below HB7.out)).mono ?_
        rintro e w8 ⟨rfl, hb8⟩
        have HB8 := Lib.hid (HB7.out.trans (hb8.mono HB7.out.size))
        clear hb8 c76' cl7
        generalize joinB pub (R idx) = js at *
        go_wp2_with fail
        go_roundw
        case rel =>
          refine ⟨k + 1, by go_num, hlt, ?_, HB8.out⟩
          rw [HTK.out, outOf_snoc, HSK.out]
          simp only [if_true, PD.text, List.length_append, bytes_len, HJL.out]
          go_num
        case measure => simp [intOf]; omega
      · have kd2 : ((kd : Int) == 2) = false := by simp; omega
        go_wp2_with fail
        go_roundw
        case rel =>
          refine ⟨k + 1, by go_num, hlt, ?_, HB.out.alloc HB.out.size _⟩
          rw [HTK.out, outOf_snoc, HSK.out]
          simp only [hkd, if_false, List.append_nil, PD.text, List.length_append, bytes_len]
          go_num
        case measure => simp [intOf]; omega
    · obtain rfl : k = n := by omega
      rw [List.take_of_length_le (by rw [HPS.out.len]; exact Nat.le_refl _)]
      have HB := Lib.hid hb
      clear hb
      go_wp2_with fail
      go_ret
      exact ⟨rfl, HB.out⟩
set_option maxRecDepth 100000 in
set_option maxHeartbeats 1000000 in
theorem accB_any (F : Stop.Interp) (c o m cc n pc : Nat) (pub dir : ByteArray) (ps : List PD) (pa ca : Option Addr) (R : Nat → ByteArray) (w : World) (hF : F.told.answers w.tape)
    (hp : pub.size ≤ 1048576) (hp0 : pub.toList.isEmpty = false) (hR : ∀ j, j < m → (R j).size ≤ 1048576) (hc : CtxAt w c o pub) (hch : w.cell? ⟨c, 17, none⟩ = some (.slice ca m cc)) (hcs : ChunksAt w ca m R) (hm : m ≤ 1048576)
    (hps : Pieces w pa n m ps) (hpa : pa.isSome = true) (hn : n ≤ 4096) (hout : (outOf pub R ps).length ≤ 1048576) :
    Calls Tryf.prog 13 #[.pointer (some ⟨c, 0, none⟩), .agg #[.slice pa n pc, .slice none 0 0, .slice none 0 0, .int .u32 0, .int .u8 0], .string dir] w (fun e w' => e = .returned (.int .i64 (outOf pub R ps).length) ∧ Below w.heap.size w w') := by
  have hb1 := (Below.refl w.heap.size w).alloc (Nat.le_refl _) (.cells #[.slice pa n pc, .slice none 0 0, .slice none 0 0, .int .u32 0, .int .u8 0] 42)
  have H := Lib.hid (acc_any F c o m cc n pc pub dir ps pa ca R _ (by rw [hb1.tape]; exact hF) hp hp0 hR (hc.below hb1) ((hb1.cell (block_lt_of_cell hch)).trans hch) (hcs.below hb1) hm (hps.below hb1) hpa hn hout)
  have HB := Lib.hid hb1
  clear hF hR hc hch hcs hps hb1
  go_enter Tryf.func13, Tryf.ntmps13
  go_wp2_with fail
  refine H.out.mono ?_
  rintro e w2 ⟨rfl, hb2⟩
  have HB2 := Lib.hid (HB.out.trans (hb2.mono HB.out.size))
  clear hb2
  go_wp2_with fail
  go_ret
  exact ⟨rfl, HB2.out⟩
end Go.Proofs.YtdoakedpkjlipaaFmt
