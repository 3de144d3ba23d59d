/- The substitution walked. -/
import Derived.Test.YtdoakedpkjlipaaFmtJr
import Derived.Deep.MidRow
import Derived.Deep.DeepCutAuto
import Derived.Laws.ResultCell
namespace Go.Proofs.YtdoakedpkjlipaaFmt
open Go.RowKit
set_option linter.unusedVariables false

def ChunksAt (w : World) (ca : Option Addr) (m : Nat) (R : Nat → ByteArray) : Prop := 0 < m → ∃ b o, ca = some ⟨b, o, none⟩ ∧ ∀ j, j < m → ∀ r, r < 22 → w.cell? ⟨b, o + j * 22 + r, none⟩ = (chunkR (R j))[r]?
/-- The pieces of an output. -/
structure Pieces (w : World) (pa : Option Addr) (n m : Nat) (ps : List PD) : Prop where
  len : ps.length = n
  row : RowAt w pa (n * 3) (fun i => (cellsP ps).getD i undef)
  ok : ∀ p ∈ ps, p.n ≤ 1048576 ∧ p.n ≤ p.c ∧ p.c ≤ maxLen ∧ RowAt w p.a p.n (byteAt p.d) ∧ p.kd ≠ 1 ∧ p.kd < 256 ∧ (p.kd = 2 → p.idx < m) ∧ p.idx < 4294967296
theorem shift_info : (Tryf.prog.info? 186).map (fun i => (i.zero, i.size, i.bytes)) = some (some (.agg #[.int .i64 0, .int .i64 0, .int .i64 0, .int .i64 0]), 4, 32) := by kernel_rfl
theorem new_row (w : World) (B : Nat) (hB : w.heap.size = B) (cs : Array Value) (T : TypeId) (fr : Nat × Nat) : ∀ j u, cs.toList[j]? = some u → (w.alloc (.cells cs T fr)).cell? ((⟨B, 0, none⟩ : Addr).add j) = some u := by
  intro j u h
  subst hB
  exact World.news_of_block (heap_alloc_new w (.cells cs T fr)) j u h
theorem st_start {w w1 : World} {kb : Nat} {k0 : Int} {v : Value} {o1 : Obj} (hk : w.heap[kb]? = some (.cells #[.int .i64 k0] 3 (0, 0)))
    (hg : (((w.alloc o1).alloc (.cells #[.slice none 0 0, .slice none 0 0, .int .u32 0, .int .u8 0] 40)).alloc (.cells #[.int .i64 0, .int .i64 0, .int .i64 0, .int .i64 0] 186)).grownBy w1 none) (hown : w1.ownsRow (w.heap.size + 1 + 1 + 1) 186 4 v 0 []) :
    St w kb (w.heap.size + 1) (w.heap.size + 1 + 1) w1 [] [] 0 v 0 k0 ∧ w1.heap[w.heap.size]? = some o1 ∧ w1.heap[w.heap.size + 1 + 1]? = some (.cells #[.int .i64 0, .int .i64 0, .int .i64 0, .int .i64 0] 186 (0, 0)) := by
  have hkl := (Array.getElem?_eq_some_iff.1 hk).1
  have blk : ∀ k, k < w.heap.size + 3 → w1.heap[k]? = (((w.alloc o1).alloc (.cells #[.slice none 0 0, .slice none 0 0, .int .u32 0, .int .u8 0] 40)).alloc (.cells #[.int .i64 0, .int .i64 0, .int .i64 0, .int .i64 0] 186)).heap[k]? := fun k h => hg.block k (by simp; omega) (fun e => by cases e)
  have e0 : w1.heap[w.heap.size]? = some o1 := by rw [blk _ (by omega), heap_alloc_old _ _ (by simp; omega), heap_alloc_old _ _ (by simp)]; exact heap_alloc_new _ _
  have e1 : w1.heap[w.heap.size + 1]? = some (.cells #[.slice none 0 0, .slice none 0 0, .int .u32 0, .int .u8 0] 40 (0, 0)) := by
    rw [blk _ (by omega), heap_alloc_old _ _ (by simp)]
    have := heap_alloc_new (w.alloc o1) (.cells #[.slice none 0 0, .slice none 0 0, .int .u32 0, .int .u8 0] 40)
    simpa using this
  have e2 : w1.heap[w.heap.size + 1 + 1]? = some (.cells #[.int .i64 0, .int .i64 0, .int .i64 0, .int .i64 0] 186 (0, 0)) := by
    rw [blk _ (by omega)]
    have := heap_alloc_new ((w.alloc o1).alloc (.cells #[.slice none 0 0, .slice none 0 0, .int .u32 0, .int .u8 0] 40)) (.cells #[.int .i64 0, .int .i64 0, .int .i64 0, .int .i64 0] 186)
    simpa using this
  have old : ∀ k, k < w.heap.size → w1.heap[k]? = w.heap[k]? := fun k h => by rw [blk _ (by omega), heap_alloc_old _ _ (by simp; omega), heap_alloc_old _ _ (by simp; omega), heap_alloc_old _ _ h]
  refine ⟨⟨rfl, rfl, hkl, ⟨by omega, _, _, _, e1, World.ownsRow_nil _ _ _ _, World.ownsRow_nil _ _ _ _⟩, ⟨_, rfl, fun i hi => ⟨0, ?_⟩, e2⟩, ⟨_, hown⟩, (old kb hkl).trans hk, ⟨hg.os, hg.tape, hg.output, ?_, fun k h _ => old k h⟩⟩, e0, e2⟩
  · match i, hi with
    | 0, _ => rfl
    | 1, _ => rfl
    | 2, _ => rfl
    | 3, _ => rfl
  · have := hg.size
    simp at this
    omega
theorem ints4 (a b c d : Int) : ∀ u ∈ ([.int .i64 a, .int .i64 b, .int .i64 c, .int .i64 d] : List Value), u.oneCell' = true := List.all_eq_true.1 (show ([.int .i64 a, .int .i64 b, .int .i64 c, .int .i64 d] : List Value).all (fun u => u.oneCell') = true from rfl)
theorem outOf_split (pub : ByteArray) (R : Nat → ByteArray) (ps : List PD) (k : Nat) : outOf pub R ps = outOf pub R (ps.take k) ++ outOf pub R (ps.drop k) := by
  have h : outOf pub R (ps.take k ++ ps.drop k) = outOf pub R (ps.take k) ++ outOf pub R (ps.drop k) := List.flatMap_append
  rwa [List.take_append_drop] at h
theorem kb_ne {w : World} {kb b o : Nat} {k0 : Int} {v : Value} (hk : w.heap[kb]? = some (.cells #[.int .i64 k0] 3 (0, 0))) (hc : w.cell? ⟨b, o, none⟩ = some v) (hv : ∀ x, v ≠ .int .i64 x) : b ≠ kb := by
  rintro rfl
  rw [cell_of_row _ _ _ _ _ _ hk] at hc
  rcases o with _ | o
  · simp at hc; exact hv _ hc.symm
  · simp at hc
theorem row_kept {w wr : World} {kb n : Nat} {k0 : Int} {a : Option Addr} {f : Nat → Value} (hk : w.heap[kb]? = some (.cells #[.int .i64 k0] 3 (0, 0))) (hg : w.grownBy wr (some kb)) (h : RowAt w a n f) (hf : 0 < n → ∀ x, f 0 ≠ .int .i64 x) : RowAt wr a n f := fun h0 => by
  obtain ⟨b, o, e, hc⟩ := h h0
  have hne := kb_ne hk (hc 0 h0) (hf h0)
  exact ⟨b, o, e, fun i hi => hg.cell (hc i hi) (fun e => hne (Option.some.inj e))⟩
theorem pcells {x : World} {P : Nat} {a b c : Value} {T : TypeId} (h : x.heap[P]? = some (.cells #[a, b, c] T (0, 0))) : x.cell? ⟨P, 0, none⟩ = some a ∧ x.cell? ⟨P, 1, none⟩ = some b ∧ x.cell? ⟨P, 2, none⟩ = some c ∧ P < x.heap.size := by
  have c0 := cell_of_row _ _ 0 _ _ _ h
  have c1 := cell_of_row _ _ 1 _ _ _ h
  have c2 := cell_of_row _ _ 2 _ _ _ h
  simp only [List.getElem?_toArray, List.getElem?_cons_zero, List.getElem?_cons_succ] at c0 c1 c2
  exact ⟨c0, c1, c2, (Array.getElem?_eq_some_iff.1 h).1⟩
theorem ctx_kept {w wr : World} {kb c o : Nat} {pub : ByteArray} (h : CtxAt w c o pub) (hg : w.grownBy wr (some kb)) (h1 : kb ≠ c) (h2 : kb ≠ o) : CtxAt wr c o pub :=
  ⟨hg.cell h.opt (fun e => h1 (Option.some.inj e).symm), hg.cell h.pub (fun e => h2 (Option.some.inj e).symm)⟩
theorem results_row_tmp {P : Program} {fn : Func} {p u : Tmp} {ty : TypeId} (h : fn.results = #[.cell p ty, .tmp u]) (tmps : Array Value) (w : World) (g : Nat) (t : TypeId) (cs : Array Value) (fr : Nat × Nat) (d : TypeDesc)
    (hp : tmps.getD p undef = .pointer (some ⟨g, 0, none⟩)) (hg : w.heap[g]? = some (.cells cs t fr))
    (hu : P.underlying ty = some d) (hd : (match d with | .struct _ | .array _ _ => true | _ => false) = true) (hi : (P.info? ty).map (·.size) = some cs.size) :
    (results fn tmps).run P w = .ok (.tuple #[.agg cs, tmps.getD u undef]) w := by
  rw [results_cell_tmp h]
  have hp' : tmps[p]?.getD undef = .pointer (some ⟨g, 0, none⟩) := by simpa using hp
  simp [hp', asAddr, run_loadVar_row w g t ty cs fr d hg hu hd hi]
/-- What the substitution comes to. -/
def SubOk (kb : Nat) (k0 : Int) (pub : ByteArray) (R : Nat → ByteArray) (ps : List PD) (w : World) (e : Ending) (w' : World) : Prop :=
  ∃ vs vb lb a7 c7, e = .returned (.tuple #[.agg #[vs, vb, .int .u32 (outOf pub R ps).length, .int .u8 lb], .slice a7 (1 + chunksOf ps) c7]) ∧ w'.ownsRow (w.heap.size + 1 + 1) 197 2 vs (ssOf pub R 0 ps).length (cellsS (ssOf pub R 0 ps)) ∧ w'.ownsRow (w.heap.size + 1 + 1) 195 2 vb (bsOf pub R 0 ps).length (cellsB (bsOf pub R 0 ps)) ∧ w'.heap[kb]? = some (.cells #[.int .i64 (k0 + chunksOf ps)] 3 (0, 0)) ∧ w.grownBy w' (some kb)
set_option maxRecDepth 100000 in
set_option maxHeartbeats 4000000 in
theorem subst_any (F : Stop.Interp) (c o kb vb db m cc n pc : Nat) (k0 : Int) (pub dir : ByteArray) (ps : List PD) (pa ca : Option Addr) (R : Nat → ByteArray) (w : World) (hF : F.told.answers w.tape)
    (hp : pub.size ≤ 1048576) (hp0 : pub.toList.isEmpty = false) (hR : ∀ j, j < m → (R j).size ≤ 1048576) (hc : CtxAt w c o pub) (hch : w.cell? ⟨c, 17, none⟩ = some (.slice ca m cc)) (hcs : ChunksAt w ca m R) (hm : m ≤ 1048576)
    (hk : w.heap[kb]? = some (.cells #[.int .i64 k0] 3 (0, 0))) (hk0 : 0 ≤ k0) (hk1 : k0 ≤ 1) (hv : w.cell? ⟨vb, 0, none⟩ = some (.pointer (some ⟨c, 0, none⟩))) (hd : w.cell? ⟨db, 0, none⟩ = some (.string dir)) (hne : kb ≠ vb ∧ kb ≠ db ∧ kb ≠ c ∧ kb ≠ o)
    (hT : Lib.Utf8Tabs 0 1 w) (hkt : 2 ≤ kb) (hps : Pieces w pa n m ps) (hpa : pa.isSome = true) (hn : n ≤ 4096) (hout : (outOf pub R ps).length ≤ 1048576) :
    Calls Tryf.prog 16 #[.pointer (some ⟨c, 0, none⟩), .agg #[.slice pa n pc, .slice none 0 0, .slice none 0 0, .int .u32 0, .int .u8 0], .func (.func 17) #[] #[.pointer (some ⟨kb, 0, none⟩), .pointer (some ⟨vb, 0, none⟩), .pointer (some ⟨db, 0, none⟩)]] w (SubOk kb k0 pub R ps w) := by
  obtain ⟨i0, hi, hz0, hz1, hz2⟩ := info_parts shift_info
  obtain ⟨pa, rfl⟩ := Option.isSome_iff_exists.1 hpa
  have hkl := (Array.getElem?_eq_some_iff.1 hk).1
  have HC := Lib.hid hc
  have HCH := Lib.hid hch
  have HCS := Lib.hid hcs
  have HK := Lib.hid hk
  have HV := Lib.hid hv
  have HD := Lib.hid hd
  have HT := Lib.hid hT
  have HPS := Lib.hid hps
  have HR := Lib.hid hR
  have HF := Lib.hid hF
  clear hF hc hch hcs hk hv hd hT hps hR hpa
  have hq := fun (wx : World) => Lib.run_eql_slice_nil (P := Tryf.prog) wx 35 147 (some pa) n pc 0 0 Tryf.underlying35
  go_enter Tryf.func16, Tryf.ntmps16
  go_wp2_with (first
    | (at_make; refine wpList_make_own _ rfl _ _ 149 rfl (w.heap.size + 1 + 1 + 1) 186 i0 _ 4 Tryf.underlying149 hi hz0 hz1 .i64 .i64 _ n rfl rfl (by rfl) (by rw [hz2]; omega) (by unfold maxLen; omega) (by simp) ?_; intro w1 hown1 hg1; (have hsz3 : (((w.alloc (.cells #[.slice (some pa) n pc, .slice none 0 0, .slice none 0 0, .int .u32 0, .int .u8 0] 42)).alloc (.cells #[.slice none 0 0, .slice none 0 0, .int .u32 0, .int .u8 0] 40)).alloc (.cells #[.int .i64 0, .int .i64 0, .int .i64 0, .int .i64 0] 186)).heap.size = w.heap.size + 1 + 1 + 1 := by simp); rw [hsz3] at hown1; clear hsz3; go_loud (have hst := st_start HK.out hg1 hown1); go_loud (have s0 := cell_of_row _ _ 0 _ _ _ hst.2.2; have s1 := cell_of_row _ _ 1 _ _ _ hst.2.2; have s2 := cell_of_row _ _ 2 _ _ _ hst.2.2; have s3 := cell_of_row _ _ 3 _ _ _ hst.2.2; have b0 := cell_of_row _ _ 0 _ _ _ hst.2.1); go_loud (simp only [List.getElem?_toArray, List.getElem?_cons_zero, List.getElem?_cons_succ] at s0 s1 s2 s3 b0); have sl := hst.1.lt; have HST := Lib.hid hst; have HO1 := Lib.hid hown1; clear hst hown1 hg1)
    | (at_builtin; go_loud (refine wpList_append_own _ rfl (.tmp 29) (.tmp 31) 149 rfl (w.heap.size + 1 + 1 + 1) 186 i0 _ 4 32 Tryf.underlying149 hi hz0 hz1 hz2 rfl (by decide) (.slice (some ⟨w.heap.size + 1 + 1 + 1, 0, none⟩) 0 n) 0 [] rfl (HO1.out.alloc _) ⟨w1.heap.size, 0, none⟩ 1 1 [.int .i64 0, .int .i64 0, .int .i64 0, .int .i64 0] rfl rfl (new_row _ _ rfl _ _ _) (ints4 _ _ _ _) (by unfold maxLen; omega) (by omega) (by simp; omega) ?_); intro v2 w2 hown2 hg2 hn2; have hst2 := (HST.out.1.alloc _).push (HO1.out.alloc _) hg2 hown2; have b2 := cell_of_row _ _ 0 _ _ _ ((hg2.block w.heap.size (by simp; omega) (fun e => by have := Option.some.inj e; simp at this; omega)).trans ((heap_alloc_old w1 _ (by omega)).trans HST.out.2.1)); simp only [List.getElem?_toArray, List.getElem?_cons_zero] at b2; have HST2 := Lib.hid hst2; have sl2 := hst2.lt; have bl2 := block_lt_of_cell b2; clear hst2 hown2 hg2 hn2))
  clear HST HO1 s0 s1 s2 s3 b0 sl b2 bl2
  go_loopw [7, 36] (fun v z wr => ∃ k : Nat, z = .int .i64 k ∧ k ≤ n ∧ St w kb (w.heap.size + 1) (w.heap.size + 1 + 1) wr (ssOf pub R 0 (ps.take k)) (bsOf pub R 0 (ps.take k)) (outOf pub R (ps.take k)).length v (1 + chunksOf (ps.take k)) (k0 + chunksOf (ps.take k))) (fun _ z _ => n - (intOf z).toNat)
  case atStart => exact ⟨0, rfl, Nat.zero_le _, by simpa [ssOf, bsOf, outOf, chunksOf] using HST2.out⟩
  case round =>
    obtain ⟨k, rfl, hkn, hS⟩ := hrel
    by_cases hlt : k < n
    · have hlen := HPS.out.len
      have hkp : k < ps.length := by omega
      have hok := HPS.out.ok ps[k] (List.getElem_mem hkp)
      have hget := cellsP_get ps k ps[k] (List.getElem?_eq_getElem hkp)
      have hrow := row_kept HK.out hS.frame HPS.out.row (fun h0 x => by
        have h1 := (cellsP_get ps 0 ps[0] (List.getElem?_eq_getElem (by omega))).1
        rw [Nat.zero_mul] at h1
        rw [h1]
        intro e
        cases e)
      obtain ⟨pb, po, hpa, hpl, hcell⟩ := hrow.blk (by omega)
      have c0 := hcell (k * 3) (by omega)
      have c1 := hcell (k * 3 + 1) (by omega)
      have c2 := hcell (k * 3 + 2) (by omega)
      rw [hget.1] at c0
      rw [hget.2.1, ← Nat.add_assoc] at c1
      rw [hget.2.2, ← Nat.add_assoc] at c2
      have hdr := row_kept HK.out hS.frame hok.2.2.2.1 (fun _ x e => by cases e)
      simp only [Option.some.injEq] at hpa
      subst hpa
      have htk : ps.take (k + 1) = ps.take k ++ [ps[k]] := List.take_succ_eq_append_getElem hkp
      have hol : (outOf pub R (ps.take k)).length + ps[k].n + (ps[k].text pub R).length ≤ 1048576 := by
        rw [outOf_split pub R ps (k + 1), htk, outOf_snoc] at hout
        simp only [List.length_append, bytes_len] at hout
        omega
      have hsl := ssOf_len pub R (ps.take k) 0
      have hbl := bsOf_len pub R (ps.take k) 0
      have htl : (ps.take k).length ≤ 4096 := by rw [List.length_take]; omega
      have HTK := Lib.hid htk
      have HOK := Lib.hid hok
      have HDR := Lib.hid hdr
      have HS := Lib.hid hS
      have hSl := hS.lt
      have HBLN := Lib.hid hbl
      have hbl' : (bsOf pub R 0 (ps.take k)).length ≤ 4096 := by omega
      have hchk : chunksOf (ps.take k) ≤ 4096 := Nat.le_trans (List.length_filter_le _ _) htl
      clear hok hget hrow hcell hdr htk hS hlen hbl
      generalize ps[k] = p at *
      clear hkp
      generalize hsk : ssOf pub R 0 (ps.take k) = sk at *
      generalize hbk : bsOf pub R 0 (ps.take k) = bk at *
      generalize hokk : outOf pub R (ps.take k) = ok at *
      generalize hcq : chunksOf (ps.take k) = q at *
      have HSK := Lib.hid (And.intro hsk (And.intro hbk (And.intro hokk hcq)))
      clear hsk hbk hokk hcq
      obtain ⟨da, dn, dc, dd, idx, kd⟩ := p
      simp only at c0 c1 c2 hol
      go_wp2_with fail
      have hj0 := ((HS.out.alloc (.cells #[.slice da dn dc, .int .u32 idx, .int .u8 kd] 147)).alloc (.cells #[.int .i64 0, .int .i64 0] 184))
      refine (addB_any (w.heap.size + 1 + 1) (w.heap.size + 1) ok.length sk bk da dn dc dd _ (by exact hj0.join) (by simp; omega) (by have h9 : dn ≤ 1048576 := HOK.out.1; omega) (by omega) (by omega) (by exact (HDR.out.below (((Below.refl _ _).alloc (Nat.le_refl _) _).alloc (by simp) _)))).mono ?_
      rintro e w3 ⟨rfl, hj3, hk3⟩
      have hP3 : w3.heap[wr.heap.size]? = some (.cells #[.slice da dn dc, .int .u32 idx, .int .u8 kd] 147 (0, 0)) := hk3.other _ _ _ _ ((heap_alloc_old _ _ (by simp)).trans (heap_alloc_new wr _)) (by omega) (by decide) (by decide)
      have hD3 : Nums w3 (wr.heap.size + 1) 184 2 := by
        refine Nums.jkept ⟨#[.int .i64 0, .int .i64 0], rfl, fun i hi => ?_, ?_⟩ hk3 (by omega) (by decide) (by decide)
        · match i, hi with
          | 0, _ => exact ⟨0, rfl⟩
          | 1, _ => exact ⟨0, rfl⟩
        · have := heap_alloc_new (wr.alloc (.cells #[.slice da dn dc, .int .u32 idx, .int .u8 kd] 147)) (.cells #[.int .i64 0, .int .i64 0] 184)
          simpa using this
      have hS3 := hj0.added hj3 hk3
      obtain ⟨p30, p31, p32, pl3⟩ := pcells hP3
      have HP3 := Lib.hid hP3
      have HD3 := Lib.hid hD3
      have HS3 := Lib.hid hS3
      have hdl3 := hD3.lt
      clear hj0 hj3 hk3 hP3 hD3 hS3
      go_wp2_with fail
      refine (advB_any (wr.heap.size + 1) 0 2 184 da dn dc dd w3 HD3.out (by decide) (by omega) (tabs_grown HT.out HS3.out.frame hkt) (row_kept HK.out HS3.out.frame HOK.out.2.2.2.1 (fun _ x e => by cases e)) HOK.out.1 HOK.out.2.1 HOK.out.2.2.1 ?_).mono ?_
      · intro b' o' h0 e
        obtain ⟨b1, o1, e1, hc1⟩ := HOK.out.2.2.2.1 h0
        have hb1l : b1 < w.heap.size := block_lt_of_cell (hc1 0 h0)
        have e1' : da = some ⟨b1, o1, none⟩ := e1
        rw [e1'] at e
        simp only [Option.some.injEq, Addr.mk.injEq, and_true] at e
        have h2 := HS.out.frame.size
        omega
      rintro e w4 ⟨rfl, hg4, hD4⟩
      have hP4 := (hg4.block wr.heap.size (by omega) (fun e => by have := Option.some.inj e; omega)).trans HP3.out
      have hS4 := HS3.out.turnD (by omega) HD3.out hg4
      obtain ⟨p40, p41, p42, pl4⟩ := pcells hP4
      obtain ⟨d0, hd0⟩ := hD4.cell (i := 0) (by decide)
      obtain ⟨d1, hd1⟩ := hD4.cell (i := 1) (by decide)
      have HP4 := Lib.hid hP4
      have HD4 := Lib.hid hD4
      have HS4 := Lib.hid hS4
      have hdl4 := hD4.lt
      clear hg4 hP4 hD4 hS4 p30 p31 p32 pl3 hdl3
      go_wp2_with fail
      refine (add_any (w.heap.size + 1 + 1) 0 4 186 d0 d1 w4 HS4.out.shift (by decide)).mono ?_
      rintro e w5 ⟨rfl, hg5, hN5⟩
      have hP5 := (hg5.block wr.heap.size (by omega) (fun e => by have := Option.some.inj e; omega)).trans HP4.out
      have hS5 := HS4.out.turnS hg5 hN5
      have hD5 := HD4.out.block (hg5.block (wr.heap.size + 1) (by omega) (fun e => by have := Option.some.inj e; omega))
      obtain ⟨p50, p51, p52, pl5⟩ := pcells hP5
      obtain ⟨d2, hd2⟩ := hD5.cell (i := 0) (by decide)
      obtain ⟨d3, hd3⟩ := hD5.cell (i := 1) (by decide)
      have HP5 := Lib.hid hP5
      have HD5 := Lib.hid hD5
      have HS5 := Lib.hid hS5
      have hdl5 := hD5.lt
      clear hg5 hP5 hD5 hS5 hN5 p40 p41 p42 pl4 hdl4 hd0 hd1
      go_wp2_with fail
      refine (add_any (w.heap.size + 1 + 1) 2 4 186 d2 d3 w5 HS5.out.shift (by decide)).mono ?_
      rintro e w6 ⟨rfl, hg6, hN6⟩
      have hP6 := (hg6.block wr.heap.size (by omega) (fun e => by have := Option.some.inj e; omega)).trans HP5.out
      have hS6 := HS5.out.turnS hg6 hN6
      obtain ⟨p60, p61, p62, pl6⟩ := pcells hP6
      have HP6 := Lib.hid hP6
      have HS6 := Lib.hid hS6
      clear hg6 hP6 hS6 hN6 p50 p51 p52 pl5 hdl5 hd2 hd3
      have kd1 : ((kd : Int) == 1) = false := by have h9 : kd ≠ 1 := HOK.out.2.2.2.2.1; simp; omega
      by_cases hkd : kd = 2
      · subst hkd
        have hidx : idx < m := HOK.out.2.2.2.2.2.2.1 rfl
        obtain ⟨cb, co, hca, hcc⟩ := HCS.out (by omega)
        have hcbn : cb ≠ kb := kb_ne HK.out ((hcc 0 (by omega) 0 (by decide)).trans rfl) (fun x e => by cases e)
        have hch : w6.cell? ⟨c, 17, none⟩ = some (.slice ca m cc) := HS6.out.frame.cell HCH.out (fun e => by have := Option.some.inj e; simp at this; omega)
        have hrg : w6.rangeAt cb (co + idx * 22) (chunkR (R idx)).toList := by
          intro j v hj
          have hj' : j < 22 := (List.getElem?_eq_some_iff.1 hj).1
          have h9 := (hcc idx hidx j hj').trans ((Array.getElem?_toList).symm.trans hj)
          exact HS6.out.frame.cell h9 (fun e => hcbn (Option.some.inj e))
        have hRi : (R idx).size ≤ 1048576 := HR.out idx hidx
        subst hca
        clear hcc
        go_upto_region 27 with fail
        refine r27_wp c m cc cb co idx wr.heap.size R _ _ _ _ _ _ _ _ _ _ _ _ _ _ _ _ _ _ _ _ _ _ _ _ _ _ _ _ _ _ _ _ _ _ _ _ _ _ _ _ _ _ _ _ _ _ _ _ _ _ _ _ _ _ _ _ _ _ _ _ _ _ _ _ _ _ _ _ _ _ _ _ _ _ _ _ _ _ _ _ _ _ _ _ _ _ _ _ _ _ _ _ _ _ _ _ _ _ _ _ _ _ _ _ _ _ _ _ _ _ _ _ _ _ _ _ _ _ _ _ _ _ _ _ _ _ _ _ _ _ _ _ _ _ _ _ _ _ _ _ w6 hch p61 hm hrg hidx ?_
        intro w7 hC7 hb7
        have hS7 := HS6.out.below hb7
        have c76 := cell_of_row _ _ 6 _ _ _ hC7
        have c76' : w7.cell? ⟨w6.heap.size, 6, none⟩ = some (.string (R idx)) := c76
        have cl7 := (Array.getElem?_eq_some_iff.1 hC7).1
        have HC7 := Lib.hid hC7
        have HS7 := Lib.hid hS7
        clear hC7 hb7 hS7 c76 hch hrg p60 p61 p62 pl6
        go_wp2_with fail
        refine (closure_any F c o kb vb db (k0 + q) pub dir (R idx) w7 (by rw [HS7.out.frame.tape]; exact HF.out) hp hp0 hRi (ctx_kept HC.out HS7.out.frame hne.2.2.1 hne.2.2.2) HS7.out.calls (by omega) (by omega) (HS7.out.frame.cell HV.out (fun e => hne.1 (Option.some.inj e).symm)) (HS7.out.frame.cell HD.out (fun e => hne.2.1 (Option.some.inj e).symm)) hne).mono ?_
        rintro e w8 ⟨rfl, hb8⟩
        have hS8 := HS7.out.called hb8
        have hC8 : w8.heap[w6.heap.size]? = some (.cells (chunkR (R idx)) 61 (0, 0)) := (hb8.block _ cl7).trans ((heap_setCell_other _ _ _ _ (show w6.heap.size ≠ kb by have := HS6.out.frame.size; omega)).trans HC7.out)
        have HC8 := Lib.hid hC8
        have HS8 := Lib.hid hS8
        have cl8 := (Array.getElem?_eq_some_iff.1 hC8).1
        have hjs := joinB_size pub (R idx)
        have hjl : (joinL pub.data.toList (R idx).data.toList).length = (joinB pub (R idx)).size := by rw [← joinB_list, size_list]
        have HJL := Lib.hid hjl
        have hjol : ok.length + dn + (joinB pub (R idx)).size ≤ 1048576 := by
          have h9 := hol
          simp only [PD.text, if_pos] at h9
          rw [HJL.out] at h9
          exact h9
        clear hb8 hS8 hC8 c76' cl7 hjl
        go_wp2_with fail
        refine (addS_any (w.heap.size + 1 + 1) (w.heap.size + 1) (ok.length + dn) sk _ (joinB pub (R idx)) w8 HS8.out.join (by have := HS8.out.lt; omega) (by omega) (by omega) (by omega)).mono ?_
        rintro e w9 ⟨rfl, hj9, hk9⟩
        have hC9 := hk9.other _ _ _ _ HC8.out (by have := HS6.out.lt; omega) (by decide) (by decide)
        have hS9 := HS8.out.added hj9 hk9
        have c90 : w9.cell? ⟨w6.heap.size, 0, none⟩ = some (.string { data := #[] }) := cell_of_row _ _ 0 _ _ _ hC9
        have cl9 := (Array.getElem?_eq_some_iff.1 hC9).1
        have HS9 := Lib.hid hS9
        clear hj9 hk9 hC9 hS9 cl8
        go_wp2_with fail
        refine (advS_any (w.heap.size + 1 + 1) 0 4 186 { data := #[] } w9 HS9.out.shift (by decide) (by decide)).mono ?_
        rintro e w10 ⟨rfl, hg10, hN10⟩
        have HS10 := Lib.hid (HS9.out.turnS hg10 hN10)
        clear hg10 hN10 c90 cl9
        go_wp2_with fail
        refine (advS_any (w.heap.size + 1 + 1) 2 4 186 (joinB pub (R idx)) w10 HS10.out.shift (by decide) (by omega)).mono ?_
        rintro e w11 ⟨rfl, hg11, hN11⟩
        have HS11 := Lib.hid (HS10.out.turnS hg11 hN11)
        obtain ⟨x0, hx0⟩ := hN11.cell (i := 0) (by decide)
        obtain ⟨x1, hx1⟩ := hN11.cell (i := 1) (by decide)
        obtain ⟨x2, hx2⟩ := hN11.cell (i := 2) (by decide)
        obtain ⟨x3, hx3⟩ := hN11.cell (i := 3) (by decide)
        have sl11 := hN11.lt
        clear hg11 hN11
        obtain ⟨xs, ho⟩ := HS11.out.own
        have HO := Lib.hid ho
        clear ho
        go_wp2_with (at_builtin; go_loud (refine wpList_append_own _ rfl (.tmp 136) (.tmp 138) 149 rfl (w.heap.size + 1 + 1 + 1) 186 i0 _ 4 32 Tryf.underlying149 hi hz0 hz1 hz2 rfl (by decide) _ _ xs rfl (HO.out.alloc _) ⟨w11.heap.size, 0, none⟩ 1 1 [.int .i64 x0, .int .i64 x1, .int .i64 x2, .int .i64 x3] rfl rfl (new_row _ _ rfl _ _ _) (ints4 _ _ _ _) (by unfold maxLen; omega) (by omega) (by simp; omega) ?_); intro v12 w12 hown12 hg12 hn12; have HS12 := Lib.hid ((HS11.out.alloc _).push (HO.out.alloc _) hg12 hown12); clear hown12 hg12 hn12)
        go_roundw
        case rel =>
          refine ⟨k + 1, by go_num, hlt, ?_⟩
          have h6 := HS12.out
          rw [HTK.out, ssOf_snoc, bsOf_snoc, outOf_snoc, chunksOf_snoc, HSK.out.1, HSK.out.2.1, HSK.out.2.2.1, HSK.out.2.2.2]
          simp only [if_true, Nat.zero_add, PD.text, List.length_append, bytes_len, HJL.out]
          rw [show (k0 + ((q + 1 : Nat) : Int)) = k0 + (q : Int) + 1 by omega, show 1 + (q + 1) = 1 + q + 1 by omega, show ok.length + (dn + (joinB pub (R idx)).size) = ok.length + dn + (joinB pub (R idx)).size by omega]
          exact h6
        case measure => simp [intOf]; omega
      · have kd2 : ((kd : Int) == 2) = false := by simp; omega
        go_wp2_with fail
        go_roundw
        case rel =>
          refine ⟨k + 1, by go_num, hlt, ?_⟩
          have h6 := HS6.out
          rw [HTK.out, ssOf_snoc, bsOf_snoc, outOf_snoc, chunksOf_snoc, HSK.out.1, HSK.out.2.1, HSK.out.2.2.1, HSK.out.2.2.2]
          simp only [hkd, if_false, List.append_nil, Nat.add_zero, Nat.zero_add, PD.text, List.length_append, bytes_len]
          exact h6
        case measure => simp [intOf]; omega
    · obtain rfl : k = n := by omega
      have hS' := hS
      rw [List.take_of_length_le (by rw [HPS.out.len]; exact Nat.le_refl _)] at hS'
      have HS := Lib.hid hS'
      clear hS hS'
      go_wp2_with fail
      obtain ⟨_, vs, vb', lb, hJ, h1, h2⟩ := HS.out.join
      obtain ⟨xs, ho⟩ := HS.out.own
      obtain ⟨a7, c7, rfl, _, _⟩ := row_of_owns ho
      exact bodyPost_ret (results_row_tmp rfl _ _ (w.heap.size + 1) 40 _ (0, 0) _ rfl hJ Tryf.underlying40 rfl (by kernel_rfl)) rfl ⟨vs, vb', lb, a7, c7, rfl, h1, h2, HS.out.calls, HS.out.frame⟩
end Go.Proofs.YtdoakedpkjlipaaFmt
