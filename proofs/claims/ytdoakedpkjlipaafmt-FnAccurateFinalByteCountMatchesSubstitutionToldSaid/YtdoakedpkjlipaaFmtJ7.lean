/- The joiner is done: its bytes. -/
import Derived.Test.YtdoakedpkjlipaaFmtJ6
namespace Go.Proofs.YtdoakedpkjlipaaFmt
open Go.RowKit
set_option linter.unusedVariables false

theorem owned_full {w : World} {base g n : Nat} {e : TypeId} {xs : List Value} (h : w.ownsRow base e 1 (.slice (some ⟨g, 0, none⟩) n n) n xs) : w.heap[g]? = some (.cells xs.toArray e (0, 0)) := by
  rcases h.2 with ⟨h', _⟩ | ⟨g', cap', cur, h', _, hg, _, _, hs, ht⟩
  · cases h'
  · cases h'
    rw [List.take_of_length_le (by rw [Array.length_toList]; omega)] at ht
    rw [hg, ← ht]
theorem Fits.zero {cur out : List UInt8} {l : List (Nat × Nat)} (h : Fits cur out l) (o : Nat) : Fits cur out (l ++ [(o, 0)]) := by
  refine ⟨h.1, fun e he i h1 h2 => ?_⟩
  rcases List.mem_append.1 he with he | he
  · exact h.2 e he i h1 h2
  · simp at he; subst he; simp only at h1 h2; omega
theorem range_out (out : List UInt8) (eo en i : Nat) (h : eo + en ≤ out.length) (hi : i < en) : ((List.range en).map fun i => out.getD (eo + i) 0)[i]? = out[eo + i]? := by
  rw [List.getElem?_map, List.getElem?_range hi]
  show some (out.getD (eo + i) 0) = _
  rw [List.getD_eq_getElem?_getD, List.getElem?_eq_getElem (by omega)]
  rfl
def DoneOk (L : Nat) (out : List UInt8) (w : World) (e : Ending) (w' : World) : Prop := ∃ a c, e = .returned (.slice a L c) ∧ L ≤ c ∧ RowAt w' a L (outAt out 0) ∧ Below w.heap.size w w'
set_option maxRecDepth 100000 in
set_option maxHeartbeats 4000000 in
theorem done_any (base J L : Nat) (ss : List (ByteArray × Nat)) (bs : List BEnt) (out : List UInt8) (w : World) (h : ∃ (vs vb : Value) (lb : Int), w.heap[J]? = some (.cells #[vs, vb, .int .u32 L, .int .u8 lb] 40 (0, 0)) ∧ w.ownsRow base 197 2 vs ss.length (cellsS ss) ∧ w.ownsRow base 195 2 vb bs.length (cellsB bs)) (hL : out.length = L) (hLb : L ≤ 4194304) (hn1 : ss.length ≤ 65536) (hn2 : bs.length ≤ 65536) (hsp : Spells w ss bs out) :
    Calls Tryf.prog 19 #[.pointer (some ⟨J, 0, none⟩)] w (DoneOk L out w) := by
  obtain ⟨i0, hi, hz0, hz1, hz2⟩ := info_parts u8_info
  obtain ⟨vs, vb, lb, hJ, hS, hB⟩ := h
  have j0 := cell_of_row _ _ 0 _ _ _ hJ
  have j1 := cell_of_row _ _ 1 _ _ _ hJ
  have j2 := cell_of_row _ _ 2 _ _ _ hJ
  simp only [List.getElem?_toArray, List.getElem?_cons_zero, List.getElem?_cons_succ] at j0 j1 j2
  have hJl := (Array.getElem?_eq_some_iff.1 hJ).1
  obtain ⟨sa, sc, rfl, hsc, hsc2, hS'⟩ := row_of_owns hS
  obtain ⟨ba, bc, rfl, hbc, hbc2, hB'⟩ := row_of_owns hB
  have HS := Lib.hid hS'
  have HB := Lib.hid hB'
  have HSP := Lib.hid hsp
  have HL := Lib.hid hL
  clear hS hB hS' hB' hsp hL hJ
  unfold maxLen at hsc2 hbc2
  by_cases h1 : ss.length = 0 ∧ bs.length = 1
  · obtain ⟨hs0, hb1⟩ := h1
    obtain ⟨e, rfl⟩ : ∃ e, bs = [e] := List.length_eq_one_iff.1 hb1
    obtain rfl : ss = [] := List.eq_nil_of_length_eq_zero hs0
    have hby := HSP.out.byt e (by simp)
    have hoff : e.off = 0 ∧ e.n = L := by
      have hl := HL.out
      rcases Nat.eq_zero_or_pos L with h0 | h0
      · omega
      · have h2 := HSP.out.all 0 (by omega)
        have h3 := HSP.out.all (L - 1) (by omega)
        simp at h2 h3
        omega
    obtain ⟨ea, en, ec, eo⟩ := e
    obtain ⟨rfl, rfl⟩ := hoff
    obtain ⟨b, o, hba, hbl, hc⟩ := HB.out.blk (by simp)
    have c0 := hc 0 (by simp)
    have c1 := hc 1 (by simp)
    simp [cellsB] at c0 c1
    subst hba
    have HBY := Lib.hid hby
    clear hc hby
    go_enter Tryf.func19, Tryf.ntmps19
    go_wp2_with fail
    go_ret
    exact ⟨_, _, rfl, HBY.out.2.1, HBY.out.2.2, Below.refl _ _⟩
  · have h1' : ss.length ≠ 0 ∨ (ss.length = 0 ∧ bs.length ≠ 1) := by omega
    clear h1
    have q1 : (((ss.length : Int) == 0) = false) ∨ (((ss.length : Int) == 0) = true ∧ ((bs.length : Int) == 1) = false) := by
      rcases h1' with h | ⟨h, h2⟩
      · left; simpa using h
      · right; exact ⟨by simpa using h, by simp; omega⟩
    clear h1'
    have q2 : ∃ x y : Bool, ((ss.length : Int) == 0) = x ∧ ((bs.length : Int) == 1) = y := ⟨_, _, rfl, rfl⟩
    rcases q1 with q1 | ⟨q1, q1'⟩
    all_goals
      clear q2
      go_enter Tryf.func19, Tryf.ntmps19
      go_wp2_with (refine wpList_make_full _ rfl _ _ 25 rfl w.heap.size 5 i0 _ 1 Tryf.underlying25 hi hz0 hz1 .u32 .u32 _ _ L rfl rfl rfl rfl ?c1 ?c2 ?c3 ?c4)
      case c1 => rw [hz2]; omega
      case c2 => unfold maxLen; omega
      case c3 => exact Nat.le_refl _
      case c4 =>
        intro w1 hown hg
        rw [madeCells_list1 _ _ rfl] at hown
        have hbk := owned_full hown
        have hb0 : Below w.heap.size w w1 := (Below.refl _ _).grown hg (Nat.le_refl _) (fun k h => by cases h)
        have hsz := (Array.getElem?_eq_some_iff.1 hbk).1
        have k0 := (hb0.cell (p := ⟨J, 0, none⟩) hJl).trans j0
        have k1 := (hb0.cell (p := ⟨J, 1, none⟩) hJl).trans j1
        have HB0 := Lib.hid hb0
        have HBK := Lib.hid hbk
        clear hown hg hb0 hbk
        go_wp2_with fail
        go_loopw [49] (fun z wr => ∃ (k : Nat) (cur : List UInt8), z = .int .i64 k ∧ k ≤ ss.length ∧ wr.heap[w.heap.size]? = some (.cells (cur.map bv).toArray 5 (0, 0)) ∧ Fits cur out ((ss.take k).map fun e => (e.2, e.1.size)) ∧ Below w.heap.size w wr) (fun z _ => ss.length - (intOf z).toNat)
        case atStart => exact ⟨0, List.replicate L 0, rfl, Nat.zero_le _, by simpa [bv] using HBK.out, ⟨by simp [HL.out], by simp⟩, HB0.out⟩
        case round =>
          obtain ⟨k, cur, rfl, hk, hcur, hfit, hbel⟩ := hrel
          by_cases hlt : k < ss.length
          · obtain ⟨b, o, hsa, hsl, hc⟩ := (HS.out.below hbel).blk (by omega)
            have hget := cellsS_get ss k ss[k] (List.getElem?_eq_getElem hlt)
            have c0 := hc (k * 2) (by omega)
            have c1 := hc (k * 2 + 1) (by omega)
            rw [hget.1] at c0
            rw [hget.2, ← Nat.add_assoc] at c1
            have hst := HSP.out.str ss[k] (List.getElem_mem hlt)
            clear hc hget
            subst hsa
            have hlen : cur.length = L := hfit.1.trans HL.out
            have htk : ss.take (k + 1) = ss.take k ++ [ss[k]] := List.take_succ_eq_append_getElem hlt
            have HTK := Lib.hid htk
            have hwl := (Array.getElem?_eq_some_iff.1 hcur).1
            have HC := Lib.hid hcur
            have HF := Lib.hid hfit
            have HBL := Lib.hid hbel
            have HLEN := Lib.hid hlen
            have HST := Lib.hid hst
            have hol : ss[k].2 + ss[k].1.size ≤ L := by rw [← HL.out]; exact hst.1
            clear hcur hfit hbel hlen hst htk
            generalize ss[k] = e at *
            obtain ⟨es, eo⟩ := e
            simp only at c0 c1 hol
            have hsome : ∀ (o' : Obj) (eo' : Nat), eo' + es.size ≤ L → ∀ j, j < es.size → ((wr.alloc o').cell? ⟨w.heap.size, eo' + j, none⟩).isSome = true := by
              intro o' eo' hle j hj
              rw [cell_of_row _ _ _ _ _ _ ((heap_alloc_old wr o' hwl).trans HC.out)]
              rw [List.getElem?_toArray, List.getElem?_eq_getElem (by rw [List.length_map, HLEN.out]; omega)]
              rfl
            have hfrz : ∀ (o' : Obj) (eo' : Nat), ∀ j, j < es.size → (wr.alloc o').frozen? ⟨w.heap.size, eo' + j, none⟩ = false := fun o' eo' j hj => frozen_of_row _ _ _ _ _ ((heap_alloc_old wr o' hwl).trans HC.out)
            have HSOME := Lib.hid (hsome (.cells #[.string es, .int .u32 eo] 197))
            have HFRZ := Lib.hid (hfrz (.cells #[.string es, .int .u32 eo] 197))
            clear hsome hfrz
            by_cases heo : eo < L
            · have hle0 : eo ≤ L := by omega
              have hne0 : ¬ L = eo := by omega
              go_wp2_with fail
              go_region_law ((refine step_copy_string (by rfl) (.tmp 56) (.tmp 58) 25 9 (by rfl) 5 Tryf.underlying25 Tryf.sizeOf5 w.heap.size eo (L - eo) (L - eo) (by rfl) es (by rfl) (by omega) (by exact HSOME.out _ (by omega)) (by exact HFRZ.out _) ?_))
              all_goals go_wp2_with fail
              all_goals
                go_roundw
                case rel =>
                  have ha := (heap_alloc_old wr (.cells #[.string es, .int .u32 eo] 197) hwl).trans HC.out
                  have hh := heap_setCells (es.data.toList.map bv) eo ((wr.alloc (.cells #[.string es, .int .u32 eo] 197)).drew) _ ha (by rw [List.length_map, List.length_map, size_list, HLEN.out]; exact hol)
                  rw [splice_map] at hh
                  have hf := HF.out.step (off := eo) (cs := es.data.toList) (by rw [size_list]; exact HST.out.1) (fun i hi => HST.out.2 i (by rw [size_list] at hi; exact hi))
                  rw [size_list] at hf
                  refine ⟨k + 1, splice cur eo es.data.toList, by go_num, hlt, hh, ?_, below_setCells (Nat.le_refl _) _ _ _ ((HBL.out.alloc HBL.out.size _).drew)⟩
                  rw [HTK.out, List.map_append]
                  exact hf
                case measure => simp [intOf]; omega
            · obtain rfl : eo = L := by omega
              have he0 : es.size = 0 := by omega
              go_wp2_with fail
              go_region_law ((refine step_copy_string (by rfl) (.tmp 56) (.tmp 58) 25 9 (by rfl) 5 Tryf.underlying25 Tryf.sizeOf5 w.heap.size 0 0 0 (by rfl) es (by rfl) (by omega) (by intro j hj; omega) (by intro j hj; omega) ?_))
              all_goals go_wp2_with fail
              all_goals
                go_roundw
                case rel =>
                  have hnil : es.data.toList = [] := List.eq_nil_of_length_eq_zero (by rw [size_list]; exact he0)
                  have ha := (heap_alloc_old wr (.cells #[.string es, .int .u32 eo] 197) hwl).trans HC.out
                  refine ⟨k + 1, cur, by go_num, hlt, ?_, ?_, ?_⟩
                  · rw [hnil]; exact ha
                  · rw [HTK.out, List.map_append]
                    have := HF.out.zero eo
                    simpa [he0] using this
                  · exact below_setCells (Nat.le_refl _) _ _ _ ((HBL.out.alloc HBL.out.size _).drew)
                case measure => simp [intOf]; omega
          · obtain rfl : k = ss.length := by omega
            rw [List.take_length] at hfit
            have HCA := Lib.hid hcur
            have HFA := Lib.hid hfit
            have HBA := Lib.hid hbel
            have m1 := (hbel.cell (p := ⟨J, 1, none⟩) hJl).trans j1
            clear hcur hfit hbel
            obtain ⟨W3, rfl⟩ : ∃ W3 : World, W3 = wr := ⟨_, rfl⟩
            have mJ := block_lt_of_cell m1
            go_wp2_with fail
            go_loopw [66] (fun z wr => ∃ (k : Nat) (cur : List UInt8), z = .int .i64 k ∧ k ≤ bs.length ∧ wr.heap[w.heap.size]? = some (.cells (cur.map bv).toArray 5 (0, 0)) ∧ Fits cur out ((ss.map fun e => (e.2, e.1.size)) ++ ((bs.take k).map fun e => (e.off, e.n))) ∧ Below w.heap.size w wr) (fun z _ => bs.length - (intOf z).toNat)
            case atStart => exact ⟨0, cur, rfl, Nat.zero_le _, HCA.out, by simpa using HFA.out, HBA.out⟩
            case round =>
              obtain ⟨k, cur, rfl, hk, hcur, hfit, hbel⟩ := hrel
              by_cases hlt' : k < bs.length
              · obtain ⟨b, o, hba, hbl, hc⟩ := (HB.out.below hbel).blk (by omega)
                have hget := cellsB_get bs k bs[k] (List.getElem?_eq_getElem hlt')
                have c0 := hc (k * 2) (by omega)
                have c1 := hc (k * 2 + 1) (by omega)
                rw [hget.1] at c0
                rw [hget.2, ← Nat.add_assoc] at c1
                have hby := HSP.out.byt bs[k] (List.getElem_mem hlt')
                clear hc hget
                subst hba
                have hlen : cur.length = L := hfit.1.trans HL.out
                have htk : bs.take (k + 1) = bs.take k ++ [bs[k]] := List.take_succ_eq_append_getElem hlt'
                have HTK := Lib.hid htk
                have hwl := (Array.getElem?_eq_some_iff.1 hcur).1
                have HC := Lib.hid hcur
                have HF := Lib.hid hfit
                have HBL := Lib.hid hbel
                have HLEN := Lib.hid hlen
                have HBY := Lib.hid hby
                have hol : bs[k].off + bs[k].n ≤ L := by rw [← HL.out]; exact hby.1
                clear hcur hfit hbel hlen hby htk
                generalize bs[k] = e at *
                obtain ⟨ea, en, ec, eo⟩ := e
                simp only at c0 c1 hol
                have hcl : (((List.range en).map fun i => out.getD (eo + i) 0).map bv).length = en := by simp
                have hag : ∀ i, i < ((List.range en).map fun i => out.getD (eo + i) 0).length → ((List.range en).map fun i => out.getD (eo + i) 0)[i]? = out[eo + i]? := by
                  intro i hi
                  have hi' : i < en := by simpa using hi
                  exact range_out out eo en i (by rw [HL.out]; exact hol) hi'
                have hone : ∀ v ∈ ((List.range en).map fun i => out.getD (eo + i) 0).map bv, v.oneCell' = true := by
                  intro v hv
                  obtain ⟨x, _, rfl⟩ := List.mem_map.1 hv
                  rfl
                have hpos : ∀ dp : Option Addr, (0 < en → dp = some ⟨w.heap.size, eo, none⟩) → 0 < (((List.range en).map fun i => out.getD (eo + i) 0).map bv).length → dp = some ⟨w.heap.size, eo, none⟩ ∧ ∃ ad, ea = some ad ∧ ∀ j v, (((List.range en).map fun i => out.getD (eo + i) 0).map bv)[j]? = some v → ((wr.alloc (.cells #[.slice ea en ec, .int .u32 eo] 195)).drew).cell? (ad.add j) = some v := by
                  intro dp hdp h0
                  rw [hcl] at h0
                  obtain ⟨b1, o1, e1, hc1⟩ := HBY.out.2.2 h0
                  refine ⟨hdp h0, ⟨b1, o1, none⟩, e1, fun j v hj => ?_⟩
                  have hj' : j < en := by rw [← hcl]; exact (List.getElem?_eq_some_iff.1 hj).1
                  have h2 := hc1 j hj'
                  have hb2 := ((HBL.out.alloc HBL.out.size (.cells #[.slice ea en ec, .int .u32 eo] 195)).drew).cell (p := ⟨b1, o1 + j, none⟩) (block_lt_of_cell h2)
                  rw [Addr.add_mid, hb2, h2]
                  rw [List.getElem?_map, List.getElem?_map, List.getElem?_range hj'] at hj
                  exact hj
                have HPOS := Lib.hid hpos
                have HAG := Lib.hid hag
                have HONE := Lib.hid hone
                have HCL := Lib.hid hcl
                have hsz5 : (Tryf.prog.info? 5).map (·.size) = some 1 := by kernel_rfl
                have HS5 := Lib.hid hsz5
                have HG := Lib.hid ((heap_alloc_old wr (.cells #[.slice ea en ec, .int .u32 eo] 195) hwl).trans HC.out)
                have HBW := Lib.hid ((HBL.out.alloc HBL.out.size (.cells #[.slice ea en ec, .int .u32 eo] 195)).drew)
                clear hpos hag hone hcl hsz5
                by_cases heo : eo < L
                · have hle0 : eo ≤ L := by omega
                  have hne0 : ¬ L = eo := by omega
                  go_wp2_with fail
                  go_region_law ((refine step_copy_splice (by rfl) (.tmp 73) (.tmp 75) 25 25 (by rfl) 5 Tryf.underlying25 HS5.out (some ⟨w.heap.size, eo, none⟩) ea (L - eo) (L - eo) en ec (by rfl) (by rfl) w.heap.size eo (cur.map bv) 5 (by exact HG.out) (((List.range en).map fun i => out.getD (eo + i) 0).map bv) (by rw [HCL.out]; exact (Nat.min_eq_left (by omega)).symm) (by exact HPOS.out _ (fun _ => rfl)) (by rw [HCL.out, List.length_map, HLEN.out]; exact hol) HONE.out w.heap.size w (by exact HBW.out) (Nat.le_refl _) ?_; intro w4 hg4 hb4; have HB4 := Lib.hid hb4; clear hb4))
                  all_goals go_wp2_with fail
                  all_goals
                    go_roundw
                    case rel =>
                      have hf := HF.out.step (off := eo) (cs := (List.range en).map fun i => out.getD (eo + i) 0) (by rw [HL.out]; simpa using hol) HAG.out
                      have hh := hg4.out
                      rw [splice_map] at hh
                      refine ⟨k + 1, splice cur eo ((List.range en).map fun i => out.getD (eo + i) 0), by go_num, hlt', hh, ?_, HB4.out⟩
                      rw [HTK.out, List.map_append, ← List.append_assoc]
                      simpa using hf
                    case measure => simp [intOf]; omega
                · obtain rfl : eo = L := by omega
                  obtain rfl : en = 0 := by omega
                  go_wp2_with fail
                  go_region_law ((refine step_copy_splice (by rfl) (.tmp 73) (.tmp 75) 25 25 (by rfl) 5 Tryf.underlying25 HS5.out (some ⟨w.heap.size, 0, none⟩) ea 0 0 0 ec (by rfl) (by rfl) w.heap.size 0 (cur.map bv) 5 (by exact HG.out) [] (by rfl) (by intro h; exact absurd h (Nat.lt_irrefl 0)) (by simp) (by intro v hv; cases hv) w.heap.size w (by exact HBW.out) (Nat.le_refl _) ?_; intro w4 hg4 hb4; have HB4 := Lib.hid hb4; clear hb4))
                  all_goals go_wp2_with fail
                  all_goals
                    go_roundw
                    case rel =>
                      have hf := HF.out.zero eo
                      have hh := hg4.out
                      refine ⟨k + 1, cur, by go_num, hlt', by simpa [splice] using hh, ?_, HB4.out⟩
                      rw [HTK.out, List.map_append, ← List.append_assoc]
                      simpa using hf
                    case measure => simp [intOf]; omega
              · obtain rfl : k = bs.length := by omega
                rw [List.take_length] at hfit
                have HC := Lib.hid hcur
                have HF := Lib.hid hfit
                have HBL := Lib.hid hbel
                clear hcur hfit hbel
                go_wp2_with fail
                go_ret
                have hco : cur = out := by
                  apply List.ext_getElem?
                  intro i
                  by_cases hi : i < out.length
                  · rcases HSP.out.all i hi with ⟨e, he, h1, h2⟩ | ⟨e, he, h1, h2⟩
                    · exact HF.out.2 (e.2, e.1.size) (List.mem_append_left _ (List.mem_map_of_mem he)) i h1 h2
                    · exact HF.out.2 (e.off, e.n) (List.mem_append_right _ (List.mem_map_of_mem he)) i h1 h2
                  · have hfl := HF.out.1
                    rw [List.getElem?_eq_none (by omega), List.getElem?_eq_none (by omega)]
                refine ⟨_, _, rfl, Nat.le_refl _, fun _ => ⟨_, 0, rfl, fun i hi => ?_⟩, HBL.out⟩
                rw [cell_of_row _ _ _ _ _ _ HC.out, hco]
                have hlo := HL.out
                rw [List.getElem?_toArray, List.getElem?_map, outAt, List.getD_eq_getElem?_getD, Nat.zero_add, List.getElem?_eq_getElem (by omega)]
                rfl
end Go.Proofs.YtdoakedpkjlipaaFmt
