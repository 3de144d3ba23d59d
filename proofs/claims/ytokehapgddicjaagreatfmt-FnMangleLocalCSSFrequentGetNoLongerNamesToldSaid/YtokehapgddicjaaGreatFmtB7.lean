/- The harness: it lays one CSS file, mangles its local names and reads them back. -/
import Derived.Test.YtokehapgddicjaaGreatFmtB6
import Derived.Test.YtokehapgddicjaaGreatFmtB7s
import Derived.Test.YtokehapgddicjaaGreatFmtB7q
import Derived.Great.Ranges
namespace Go.Proofs.YtokehapgddicjaaGreatFmt
open Go.RowKit
set_option linter.unusedVariables false
set_option linter.unusedSimpArgs false
theorem sym_info : (Tryz.prog.info? 52).map (fun i => (i.zero, i.size, i.bytes)) = some (some (.agg symZ), 10, 48) := by kernel_rfl
theorem file_ok : (match Tryz.prog.info? 98 with | some i => (match i.zero with | some (.agg z) => z.size == 24 && i.size == 24 && decide (i.bytes ≤ 65536) | _ => false) | none => false) = true := by kernel_rfl
theorem file_info : ∃ (i : TypeInfo) (z : Array Value), Tryz.prog.info? 98 = some i ∧ i.zero = some (.agg z) ∧ i.size = 24 ∧ i.bytes ≤ 65536 ∧ z.size = 24 := by
  have h := file_ok
  split at h
  · rename_i i hi
    split at h
    · rename_i z hz
      simp only [Bool.and_eq_true, beq_iff_eq, decide_eq_true_eq] at h
      exact ⟨i, z, hi, hz, h.1.2, h.2, h.1.1⟩
    · cases h
  · cases h
theorem own_some {w : World} {base : Nat} {e : TypeId} {size n cap g : Nat} {xs : List Value} (h : w.ownsRow base e size (.slice (some ⟨g, 0, none⟩) n cap) n xs) {j : Nat} (hj : j < n * size) : ∃ v, w.cell? ⟨g, j, none⟩ = some v := by
  rw [h.cellAt j hj]
  have h1 := h.1
  exact ⟨_, List.getElem?_eq_getElem (by omega)⟩
noncomputable def opt0 : Array Value := (Tryz.prog.built 146 [(52, .bool true)]).getD #[]
theorem wpl_forget {P : Program} {ops : Array Oper} {rest : List Oper} {Q : Exit → Act → World → Prop} {a : Act} {w : World} (F : World → Prop) (hF : F w) (h : ∀ w1, F w1 → wpList P ops Q rest a w1) : wpList P ops Q rest a w := h w hF
theorem five (w : World) (o1 o2 o3 o4 o5 : Obj) : (((((w.alloc o1).alloc o2).alloc o3).alloc o4).alloc o5).heap[w.heap.size]? = some o1 ∧ (((((w.alloc o1).alloc o2).alloc o3).alloc o4).alloc o5).heap[w.heap.size + 1]? = some o2 ∧ (((((w.alloc o1).alloc o2).alloc o3).alloc o4).alloc o5).heap[w.heap.size + 1 + 1]? = some o3 ∧ (((((w.alloc o1).alloc o2).alloc o3).alloc o4).alloc o5).heap[w.heap.size + 1 + 1 + 1]? = some o4 ∧ (((((w.alloc o1).alloc o2).alloc o3).alloc o4).alloc o5).heap[w.heap.size + 1 + 1 + 1 + 1]? = some o5 ∧ Below w.heap.size w (((((w.alloc o1).alloc o2).alloc o3).alloc o4).alloc o5) := by
  refine ⟨?_, ?_, ?_, ?_, ?_, ?_⟩
  · rw [Below.heap_alloc _ _ _ (by simp <;> omega), Below.heap_alloc _ _ _ (by simp <;> omega), Below.heap_alloc _ _ _ (by simp <;> omega), Below.heap_alloc _ _ _ (by simp)]
    exact heap_alloc_new w o1
  · rw [Below.heap_alloc _ _ _ (by simp <;> omega), Below.heap_alloc _ _ _ (by simp <;> omega), Below.heap_alloc _ _ _ (by simp)]
    have := heap_alloc_new (w.alloc o1) o2
    simpa using this
  · rw [Below.heap_alloc _ _ _ (by simp <;> omega), Below.heap_alloc _ _ _ (by simp)]
    have := heap_alloc_new ((w.alloc o1).alloc o2) o3
    simpa using this
  · rw [Below.heap_alloc _ _ _ (by simp)]
    have := heap_alloc_new (((w.alloc o1).alloc o2).alloc o3) o4
    simpa using this
  · have := heap_alloc_new ((((w.alloc o1).alloc o2).alloc o3).alloc o4) o5
    simpa using this
  · exact (((((Below.refl _ _).alloc (Nat.le_refl _) _).alloc (by simp) _).alloc (by simp; omega) _).alloc (by simp; omega) _).alloc (by simp; omega) _
theorem Near.low {a b n : Nat} {w w' : World} (k : Near a b w w') (h1 : n ≤ a) (h2 : n ≤ b) (h3 : n ≤ w.heap.size) : Below n w w' := ⟨k.os, k.tape, k.output, k.size, fun i hi => k.block i (by omega) (by omega) (by omega)⟩
theorem zero9 (w : World) : (zeroValue 9).run Tryz.prog w = .ok (.string ByteArray.empty) w := by kernel_rfl
theorem mixRow_skip (xs : List Value) (z : Value) (n k : Nat) (hk : k < n) (h : xs.length = n) (hv : xs[k]? = some z) : mixRow xs z n (k + 1) = mixRow xs z n k := by
  rw [← mixRow_set xs z z n k hk h hv]
  refine List.ext_getElem? fun j => ?_
  by_cases e : k = j
  · subst e
    rw [List.getElem?_set_self (by have := (List.getElem?_eq_some_iff.1 (mixRow_at xs z n k hk h)).1; exact this), mixRow_at xs z n k hk h]
  · rw [List.getElem?_set_ne e]
theorem syms_of {S : Nat → ByteArray} {B : Nat → Bool} {C : Nat → Int} {n g base : Nat} {e : TypeId} {w : World} (h : w.ownsRow base e 10 (.slice (some ⟨g, 0, none⟩) n n) n (flat (symE S B C) (symTo n n))) : ∀ i, i < n → ∀ j v, (symL S B C i)[j]? = some v → w.cell? ⟨g, i * 10 + j, none⟩ = some v := by
  intro i hi j v hv
  have hj : j < 10 := (List.getElem?_eq_some_iff.1 hv).1
  have hat := symTo_at n n i hi
  rw [show (if i < n then some i else none) = some i from if_pos hi] at hat
  rw [h.cellAt _ (by omega), flat_at (symE_len S B C) (symTo n n) i j (by rw [symTo_len]; exact hi) hj, hat]
  exact hv
theorem run_make_map_hint (w : World) (t k e : TypeId) (n : Nat) (ht : Tryz.prog.underlying t = some (.map k e)) : (Instr.makeMap t (some (.int .i64 (n : Int)))).run Tryz.prog w = .ok (.map (some w.heap.size)) (w.alloc (.map #[] 0)) := by
  simp [Instr.makeMap, run_underlying ht, asInt, asIntOf, Result.andThen]
set_option maxRecDepth 100000 in
set_option maxHeartbeats 1000000 in
theorem harness_any (ident : ByteArray) (na : Option Addr) (n nc : Nat) (S : Nat → ByteArray) (ga : Option Addr) (gc : Nat) (B : Nat → Bool) (ca : Option Addr) (cc : Nat) (C : Nat → Int) (ua : Option Addr) (un uc : Nat) (US : Nat → ByteArray) (w : World)
    (hn : n ≤ 4096) (hun : un ≤ 4096) (hS : ∀ i, i < n → (S i).size ≤ 1048576) (hUS : ∀ i, i < un → (US i).size ≤ 1048576) (rN : RowAt w na n (strAt S)) (rG : RowAt w ga n (boolAt B)) (rC : RowAt w ca n (intAt .u32 C)) (rU : RowAt w ua un (strAt US))
    (v0 : w.cell? ⟨0, 0, none⟩ = some (.int .u32 4294967295)) (v1 : w.cell? ⟨0, 1, none⟩ = some (.int .u32 4294967295)) :
    Calls Tryz.prog 12 #[.string ident, .slice na n nc, .slice ga n gc, .slice ca n cc, .slice ua un uc, .bool true] w (fun e w' => ∃ (f : Value → Option Value) (J : Nat → Nat) (oa ha : Nat), Named S B C ((List.range un).map US) n f J ∧ e = .returned (.tuple #[.slice (some ⟨oa, 0, none⟩) n n, .slice (some ⟨ha, 0, none⟩) n n]) ∧ RowAt w' (some ⟨oa, 0, none⟩) n (strAt (outS B J)) ∧ RowAt w' (some ⟨ha, 0, none⟩) n (boolAt (hasB B)) ∧ Below w.heap.size w w') := by
  obtain ⟨i0, hi, hz0, hz1, hz2⟩ := info_parts sym_info
  have HU := Lib.hid (And.intro hUS rU)
  have HS := Lib.hid hS
  have HR := Lib.hid (And.intro rN (And.intro rG (And.intro rC (And.intro v0 v1))))
  clear hUS rU hS rN rG rC v0 v1
  go_enter Tryz.func12, Tryz.ntmps12
  go_wp2_with (refine wpList_make_full _ rfl _ _ 41 rfl w.heap.size 52 i0 _ 10 Tryz.underlying41 hi hz0 hz1 .i64 .i64 _ _ n rfl rfl rfl rfl ?c1 ?c2 ?c3 ?c4)
  case c1 => rw [hz2]; omega
  case c2 => unfold maxLen; omega
  case c3 => exact Nat.le_refl _
  case c4 =>
    intro w1 hown hg
    rw [sym_zero S B C n] at hown
    have hb1 := (Below.refl w.heap.size w).grown hg (Nat.le_refl _) (fun j h => by cases h)
    have H1 := Lib.hid (And.intro hown hb1)
    clear hown hg hb1
    generalize hg0 : w.heap.size = g at *
    have HG := Lib.hid hg0
    go_upto_block 0 with fail
    go_cut [] from 15 (fun w' => w'.ownsRow g 52 10 (.slice (some ⟨g, 0, none⟩) n n) n (flat (symE S B C) (symTo n n)) ∧ Below g w w')
    case first =>
      go_wp2_with fail
      go_loopw [31] (fun iv wr => ∃ k : Nat, k ≤ n ∧ iv = .int .i64 k ∧ Hid (wr.ownsRow g 52 10 (.slice (some ⟨g, 0, none⟩) n n) n (flat (symE S B C) (symTo n k)) ∧ Below g w wr)) (fun iv _ => n - (intOf iv).toNat)
      case atStart => exact ⟨0, Nat.zero_le _, rfl, H1.out⟩
      case round =>
        obtain ⟨k, hk, rfl, HK⟩ := hrel
        by_cases hlt : k < n
        · obtain ⟨nb, no, rfl, nl, n2⟩ := HR.out.1.blk (by omega)
          obtain ⟨gb, go, rfl, gl, gl2⟩ := HR.out.2.1.blk (by omega)
          obtain ⟨cb, co, rfl, cl, c2⟩ := HR.out.2.2.1.blk (by omega)
          have x1 := (HK.out.2.cell (p := ⟨nb, no + k, none⟩) (show nb < g by rw [← HG.out]; exact nl)).trans (n2 k hlt)
          obtain ⟨u1, a1⟩ := own_some HK.out.1 (j := k * 10 + 1) (by omega)
          have f1 := HK.out.1.frozenAt (k * 10 + 1)
          have HX := Lib.hid (And.intro (gl2 k hlt) (c2 k hlt))
          have b0 : (0 : Int) ≤ (k : Int) := by omega
          have b1 : (k : Int) < (n : Int) := by omega
          clear n2 c2 gl2
          go_upto_region 6 with fail
          refine wp_forget (fun w' => w'.ownsRow g 52 10 (.slice (some ⟨g, 0, none⟩) n n) n ((flat (symE S B C) (symTo n k)).set (k * 10 + 1) (.string (S k))) ∧ Below g w w') ⟨(HK.out.1.stored _ _).1, HK.out.2.setCell (p := ⟨g, k * 10 + 1, none⟩) (Nat.le_refl _) _⟩ ?_
          clear x1 a1 f1
          rintro w2 ⟨ho2, hb2⟩
          have x1 := (hb2.cell (p := ⟨cb, co + k, none⟩) (show cb < g by rw [← HG.out]; exact cl)).trans HX.out.2
          obtain ⟨u1, a1⟩ := own_some ho2 (j := k * 10 + 4) (by omega)
          have f1 := ho2.frozenAt (k * 10 + 4)
          have H2 := Lib.hid (And.intro ho2 hb2)
          clear ho2 hb2
          go_upto_region 7 with fail
          refine wp_forget (fun w' => w'.ownsRow g 52 10 (.slice (some ⟨g, 0, none⟩) n n) n (((flat (symE S B C) (symTo n k)).set (k * 10 + 1) (.string (S k))).set (k * 10 + 4) (.int .u32 (C k))) ∧ Below g w w') ⟨(H2.out.1.stored _ _).1, H2.out.2.setCell (p := ⟨g, k * 10 + 4, none⟩) (Nat.le_refl _) _⟩ ?_
          clear x1 a1 f1
          rintro w3 ⟨ho3, hb3⟩
          have z0 := (hb3.cell (p := ⟨0, 0, none⟩) (show 0 < g by rw [← HG.out]; exact block_lt_of_cell HR.out.2.2.2.1)).trans HR.out.2.2.2.1
          have z1 := (hb3.cell (p := ⟨0, 1, none⟩) (show 0 < g by rw [← HG.out]; exact block_lt_of_cell HR.out.2.2.2.1)).trans HR.out.2.2.2.2
          obtain ⟨u2, a2⟩ := own_some ho3 (j := k * 10 + 2) (by omega)
          obtain ⟨u3, a3⟩ := own_some ho3 (j := k * 10 + 3) (by omega)
          obtain ⟨u4, a4⟩ := cell_set_some (w := w3) (p := ⟨g, k * 10 + 2, none⟩) (x := .int .u32 4294967295) (q := ⟨g, k * 10 + 3, none⟩) a3
          have f2 := ho3.frozenAt (k * 10 + 2)
          have f3 := ho3.frozenAt (k * 10 + 3)
          have H3 := Lib.hid (And.intro ho3 hb3)
          clear ho3 hb3
          go_upto_region 8 with fail
          refine wp_forget (fun w' => w'.ownsRow g 52 10 (.slice (some ⟨g, 0, none⟩) n n) n (((((flat (symE S B C) (symTo n k)).set (k * 10 + 1) (.string (S k))).set (k * 10 + 4) (.int .u32 (C k))).set (k * 10 + 2) (.int .u32 4294967295)).set (k * 10 + 3) (.int .u32 4294967295)) ∧ Below g w w') ⟨((H3.out.1.stored _ _).1.stored _ _).1, (H3.out.2.setCell (p := ⟨g, k * 10 + 2, none⟩) (Nat.le_refl _) _).setCell (p := ⟨g, k * 10 + 3, none⟩) (Nat.le_refl _) _⟩ ?_
          clear z0 z1 a2 a3 a4 f2 f3
          rintro w4 ⟨ho4, hb4⟩
          have x1 := (hb4.cell (p := ⟨gb, go + k, none⟩) (show gb < g by rw [← HG.out]; exact gl)).trans HX.out.1
          obtain ⟨u1, a1⟩ := own_some ho4 (j := k * 10 + 8) (by omega)
          have f1 := ho4.frozenAt (k * 10 + 8)
          have H4 := Lib.hid (And.intro ho4 hb4)
          have HSET := Lib.hid (sym_set S B C n k hlt)
          clear ho4 hb4
          cases hB : B k with
          | true =>
            rw [boolAt, hB] at x1
            have hs := HSET.out
            rw [hB] at hs
            simp only [if_true] at hs
            have HS2 := Lib.hid hs
            have HBB := Lib.hid hB
            clear hs hB
            go_wp2_with fail
            exact ⟨⟨k + 1, by omega, by go_num, by rw [← HS2.out]; exact (H4.out.1.stored _ _).1, H4.out.2.setCell (p := ⟨g, k * 10 + 8, none⟩) (Nat.le_refl _) _⟩, by simp [intOf]; omega⟩
          | false =>
            rw [boolAt, hB] at x1
            have hs := HSET.out
            rw [hB] at hs
            simp only [Bool.false_eq_true, if_false] at hs
            have HS2 := Lib.hid hs
            have HBB := Lib.hid hB
            clear hs hB
            go_wp2_with fail
            exact ⟨⟨k + 1, by omega, by go_num, by rw [← HS2.out]; exact (H4.out.1.stored _ _).1, H4.out.2.setCell (p := ⟨g, k * 10 + 8, none⟩) (Nat.le_refl _) _⟩, by simp [intOf]; omega⟩
        · obtain rfl : k = n := by omega
          go_wp2_with fail
          go_meet
          case rel => exact HK.out
    case rest =>
      obtain ⟨iF, zF, hiF, hzF, hsF, hbF, hcF⟩ := file_info
      have HC := Lib.hid hcut
      clear hcut hg0
      go_wp2_with (refine wpList_make_full _ rfl _ _ 53 rfl g 98 iF _ 24 Tryz.underlying53 hiF hzF hsF .i64 .i64 _ _ 2 rfl rfl rfl rfl ?d1 ?d2 ?d3 ?d4)
      case d1 => omega
      case d2 => unfold maxLen; omega
      case d3 => rw [← HG.out]; exact HC.out.2.size
      case d4 =>
        intro w2 hown2 hg2
        have hb2 := HC.out.2.grown hg2 (by rw [← HG.out]; exact HC.out.2.size) (fun j h => by cases h)
        obtain ⟨u1, a1⟩ := own_some hown2 (j := 26) (by omega)
        have f1 := hown2.frozenAt 26
        have flt := owns_lt hown2
        generalize hfl : wc.heap.size = fl at *
        go_upto_region 13 with fail
        go_upto_region 14 with fail
        generalize hcr : w2.heap.size = cr at *
        have hflc : fl < cr := flt
        refine wp_forget (fun w' => Below fl wc w' ∧ (∃ L, w'.ownsRow g 98 24 (.slice (some ⟨fl, 0, none⟩) 2 2) 2 L ∧ L[26]? = some (.iface 54 (.pointer (some ⟨cr, 0, none⟩)))) ∧ w'.cell? ⟨cr, 1, none⟩ = some (.pointer none) ∧ cr < w'.heap.size) ⟨?_, ⟨_, ((hown2.stored 26 _).1).alloc _, ?_⟩, ?_, ?_⟩ ?_
        · exact ((((Below.refl fl wc).grown hg2 (by omega) (fun j h => by cases h)).setCell (p := ⟨fl, 26, none⟩) (Nat.le_refl _) _)).alloc (by show fl ≤ _; simp; omega) _
        · rw [List.getElem?_set_self (by have := hown2.1; omega)]
        · have hsz : (w2.setCell ⟨fl, 26, none⟩ (.iface 54 (.pointer (some ⟨cr, 0, none⟩)))).heap.size = cr := by simpa using hcr
          have h7 := heap_alloc_new (w2.setCell ⟨fl, 26, none⟩ (.iface 54 (.pointer (some ⟨cr, 0, none⟩)))) (.cells #[.slice none 0 0, .pointer none, .slice none 0 0, .slice none 0 0, .string { data := #[] }, .int .i32 0, .int .i32 0, .int .i32 0, .slice none 0 0, .map none, .map none, .map none, .slice none 0 0, .slice none 0 0, .int .u32 0] 71)
          rw [hsz] at h7
          exact (Lib.cell_of_heap h7 1).trans rfl
        · simp [hcr]
        clear a1 f1 hown2 hg2 hb2 flt
        rintro w3 ⟨hb3, ⟨L, ho3, hL3⟩, hc3, hs3⟩
        obtain ⟨u1, a1⟩ := own_some ho3 (j := 34) (by omega)
        have f1 := ho3.frozenAt 34
        have H3 := Lib.hid (And.intro hb3 (And.intro ho3 (And.intro hL3 (And.intro hc3 hs3))))
        clear hb3 ho3 hL3 hc3 hs3
        go_upto_region 15 with fail
        refine wp_forget (fun w' => Below fl wc w' ∧ w'.cell? ⟨fl, 26, none⟩ = some (.iface 54 (.pointer (some ⟨cr, 0, none⟩))) ∧ w'.cell? ⟨cr, 1, none⟩ = some (.pointer none)) ⟨H3.out.1.setCell (p := ⟨fl, 34, none⟩) (Nat.le_refl _) _, ?_, ?_⟩ ?_
        · rw [(H3.out.2.1.stored 34 _).1.cellAt 26 (by omega), List.getElem?_set_ne (by decide)]
          exact H3.out.2.2.1
        · rw [World.cell?_setCell_other _ _ _ _ (by first | (simp; done) | (simp; omega))]
          exact H3.out.2.2.2.1
        clear a1 f1
        rintro w4 ⟨hb4, hc4, hd4⟩
        have mk35 := fun (wx : World) => run_make_map_hint wx 35 9 4 un Tryz.underlying35
        have H4 := Lib.hid (And.intro hb4 (And.intro hc4 hd4))
        have hcr4 := block_lt_of_cell hd4
        clear hb4 hc4 hd4
        go_upto_block 2 with fail
        generalize hum : w4.heap.size = um at *
        have hm0 : MapIs Tryz.prog 9 (w4.alloc (.map #[] 0)) um (fun _ => none) := by rw [← hum]; exact MapIs.made w4
        have hb5 : Below um w4 (w4.alloc (.map #[] 0)) := by rw [← hum]; exact (Below.refl _ _).alloc (Nat.le_refl _) _
        have H5 := Lib.hid (And.intro hm0 hb5)
        clear hm0 hb5 mk35
        go_cut [] from 21 (fun w' => ∃ f, MapIs Tryz.prog 9 w' um f ∧ SetIs f ((List.range un).map US) ∧ Below um w4 w')
        case first =>
          go_wp2_with fail
          go_loopw [87] (fun iv wr => ∃ (k : Nat) (f : Value → Option Value), k ≤ un ∧ iv = .int .i64 k ∧ Hid (MapIs Tryz.prog 9 wr um f ∧ SetIs f ((List.range k).map US) ∧ Below um w4 wr)) (fun iv _ => un - (intOf iv).toNat)
          case atStart => exact ⟨0, _, Nat.zero_le _, rfl, H5.out.1, SetIs.nil, H5.out.2⟩
          case round =>
            obtain ⟨k, f, hk, rfl, HK⟩ := hrel
            by_cases hlt : k < un
            · obtain ⟨nb, no, rfl, nl, n2⟩ := HU.out.2.blk (by omega)
              have x1 := (HK.out.2.2.cell (p := ⟨nb, no + k, none⟩) (show nb < um by have := HG.out; have := HC.out.2.size; omega)).trans (H4.out.1.cell (p := ⟨nb, no + k, none⟩) (show nb < fl by have := HG.out; have := HC.out.2.size; omega))
              have x2 := x1.trans ((HC.out.2.cell (p := ⟨nb, no + k, none⟩) (show nb < g by rw [← HG.out]; exact nl)).trans (n2 k hlt))
              have HZ := Lib.hid (HU.out.1 k hlt)
              clear x1 n2
              go_wp2_with (refine wpList_put_map _ rfl _ _ _ _ rfl 9 4 K9 Tryz.underlying35 um f rfl HK.out.1 _ _ _ rfl rfl (str_key _ HZ.out) ?_; intro w' hm' hg'; have HQ := Lib.hid (And.intro hm' hg'); clear hm' hg')
              exact ⟨⟨k + 1, _, by omega, by go_num, HQ.out.1, by rw [List.range_succ, List.map_append]; exact (HK.out.2.1.put (US k)).iff (fun s => by simp [or_comm]), HK.out.2.2.grown HQ.out.2 (by have := HK.out.1.lt; have := hum; omega) (fun j h => by cases h; exact Nat.le_refl _)⟩, by simp [intOf]; omega⟩
            · obtain rfl : k = un := by omega
              go_wp2_with fail
              go_meet
              case rel => exact ⟨f, HK.out⟩
        case rest =>
          obtain ⟨f, hf1, hf2, hf3⟩ := hcut
          have hopl := hf1.lt
          generalize hop : wc.heap.size = op at *
          have H6 := Lib.hid (And.intro hf1 (And.intro hf2 (And.intro hf3 hop)))
          clear hf1 hf2 hf3
          go_upto_region 21 with fail
          go_step
          refine Go.Great.wpList_readTo rfl (some 94) rfl (.bool true) (by kernel_rfl) ?_
          refine wpList_buildTo rfl 146 #[(52, .tmp 94)] rfl (some 95) rfl opt0 (by kernel_rfl) ?_
          refine Go.Great.wpList_boxTo rfl 146 (.tmp 95) rfl (some 96) rfl op hop opt0 rfl ?_
          go_frame
          refine wpl_forget (fun w' => Below op wc w' ∧ w'.cell? ⟨op, 76, none⟩ = some (.bool true)) ⟨(Below.refl _ _).alloc (by omega) _, ?_⟩ ?_
          · have h7 := heap_alloc_new wc (.cells opt0 146)
            rw [hop] at h7
            exact (Lib.cell_of_heap h7 76).trans (by kernel_rfl)
          rintro w5 ⟨hb5, h5⟩
          have mk156 := fun (wx : World) => run_make_map wx 156 44 9 Tryz.underlying156
          go_upto_region 22 with (go_at_call 19; refine (quiet_any _).mono ?_; rintro e w6 ⟨⟨q0, q1, q2, q3, q4, q5, rfl⟩, hb6⟩)
          generalize hmp : w6.heap.size = mp at *
          have hfive := five w6
          rw [hmp] at hfive
          refine wp_forget (fun w' => Below mp w6 w' ∧ w'.heap[mp]? = some (.map #[] 0) ∧ w'.heap[mp + 1]? = some (.cells #[.int .u32 1] 34) ∧ w'.heap[mp + 1 + 1]? = some (.cells #[.int .u32 0, .int .u32 1] 34) ∧ w'.heap[mp + 1 + 1 + 1]? = some (.cells #[.slice none 0 0, .slice (some ⟨g, 0, none⟩) n n] 41) ∧ w'.heap[mp + 1 + 1 + 1 + 1]? = some (.cells #[.pointer (some ⟨op, 0, none⟩), .pointer none, .func q0 q1 q2, .func q3 q4 q5, .nilFunc, .nilFunc, .int .i8 0, .map none, .nilIface, .pointer none, .slice (some ⟨fl, 0, none⟩) 2 2, .slice none 0 0, .slice (some ⟨mp + 1 + 1 + 1, 0, none⟩) 2 2, .map none, .map none, .slice (some ⟨mp + 1, 0, none⟩) 1 1, .slice (some ⟨mp + 1 + 1, 0, none⟩) 2 2, .slice none 0 0, .slice none 0 0, .nilFunc, .string { data := #[] }, .slice none 0 0, .map (some mp), .int .u32 0, .int .u32 0, .int .u32 0, .int .u32 0, .int .u32 0, .int .u32 0] 173)) ⟨(hfive _ _ _ _ _).2.2.2.2.2, (hfive _ _ _ _ _).1, (hfive _ _ _ _ _).2.1, (hfive _ _ _ _ _).2.2.1, (hfive _ _ _ _ _).2.2.2.1, (hfive _ _ _ _ _).2.2.2.2.1⟩ ?_
          clear hfive mk156
          rintro w7 ⟨hb7, k0, k1, k2, k3, k4⟩
          have hop5 := block_lt_of_cell h5
          have hgfl : g < fl := by have h9 := owns_lt HC.out.1; rw [hfl] at h9; exact h9
          have h0g : 0 < g := by have h9 := block_lt_of_cell HR.out.2.2.2.1; rw [HG.out] at h9; exact h9
          have hs6 := hb6.size
          simp only at hop5 hs6
          rw [hmp] at hs6
          have B57 : Below w5.heap.size w5 w7 := hb6.trans (hb7.mono hs6)
          have Bc7 : Below op wc w7 := hb5.trans (B57.mono (by omega))
          have B47 : Below um w4 w7 := H6.out.2.2.1.trans (Bc7.mono (by omega))
          have B17 : Below fl _ w7 := H4.out.1.trans (B47.mono (by omega))
          have B07 : Below g w w7 := HC.out.2.trans (B17.mono (by omega))
          have HH := Lib.hid (And.intro B57 (And.intro Bc7 (And.intro B47 (And.intro B17 B07))))
          have hctx : Ctx (mp + 1 + 1 + 1 + 1) op fl cr (mp + 1) (mp + 1 + 1) (mp + 1 + 1 + 1) g mp um n S B C w7 :=
            ⟨(Lib.cell_of_heap k4 0).trans rfl, (Lib.cell_of_heap k4 1).trans rfl, (Lib.cell_of_heap k4 10).trans rfl, (Lib.cell_of_heap k4 12).trans rfl, (Lib.cell_of_heap k4 15).trans rfl, (Lib.cell_of_heap k4 16).trans rfl, (Lib.cell_of_heap k4 22).trans rfl,
              (B57.cell (p := ⟨op, 76, none⟩) hop5).trans h5, (Lib.cell_of_heap k1 0).trans rfl, (Lib.cell_of_heap k2 1).trans rfl,
              (B47.cell (p := ⟨fl, 26, none⟩) (show fl < um by omega)).trans H4.out.2.1, (B47.cell (p := ⟨cr, 1, none⟩) (show cr < um by omega)).trans H4.out.2.2, (Lib.cell_of_heap k3 1).trans rfl,
              Nat.lt_of_lt_of_le (by omega : g < mp) (Nat.le_of_lt (Array.getElem?_eq_some_iff.1 k0).1),
              fun i hi j v hv => (B17.cell (p := ⟨g, i * 10 + j, none⟩) (show g < fl from hgfl)).trans (syms_of HC.out.1 i hi j v hv),
              (B07.cell (p := ⟨0, 0, none⟩) h0g).trans HR.out.2.2.2.1, (B07.cell (p := ⟨0, 1, none⟩) h0g).trans HR.out.2.2.2.2⟩
          have hapart : Apart (mp + 1 + 1 + 1 + 1) op fl cr (mp + 1) (mp + 1 + 1) (mp + 1 + 1 + 1) g mp um := by
            refine ⟨⟨?_, ?_⟩, ⟨?_, ?_⟩, ⟨?_, ?_⟩, ⟨?_, ?_⟩, ⟨?_, ?_⟩, ⟨?_, ?_⟩, ⟨?_, ?_⟩, ⟨?_, ?_⟩, ⟨?_, ?_⟩, ?_⟩ <;> omega
          have hfu : MapIs Tryz.prog 9 w7 um f := H6.out.1.below (by rw [H6.out.2.2.2]; exact Bc7)
          have HX := Lib.hid (And.intro hctx (And.intro hapart (And.intro (map_empty k0 : MapIs Tryz.prog 44 w7 mp _) (And.intro hfu (Array.getElem?_eq_some_iff.1 k0).1))))
          clear hctx hapart hfu k0 k1 k2 k3 k4 B57 Bc7 B47 B17 B07 hb6 hb5 hb7 h5
          go_upto_region 23 with (go_at_call 20; refine (mangle_any _ op fl cr (mp + 1) (mp + 1 + 1) (mp + 1 + 1 + 1) g mp um n S B C _ f ((List.range un).map US) w7 HX.out.1 HX.out.2.1 HX.out.2.2.1 HX.out.2.2.2.1 H6.out.2.1 (by rw [List.length_map, List.length_range]; omega) hn HS.out).mono ?_; rintro e w8 ⟨rfl, d, m, ps, u, hd1, hd2, hmi⟩)
          obtain ⟨J, hJ⟩ := named_of hd1 hd2 (hmi.fsts.trans (List.take_length)) hmi.snds (fun p hp => (hmi.free p hp).2) (fun p hp => by have h1 := (hmi.free p hp).1; have h2 := hmi.bound; have h3 : d.length ≤ n := hd1.length_eq ▸ locs_le B n; omega)
          obtain ⟨iS, hiS, hzS, hsS, hbS⟩ := info_parts clone_strs_info
          obtain ⟨iB, hiB, hzB, hsB, hbB⟩ := info_parts clone_bools_info
          have b8 : Below g w w8 := HH.out.2.2.2.2.trans (hmi.near.low (by omega) (by omega) (by have := HX.out.2.2.2.2; omega))
          have hmc := (hmi.near.cell (p := ⟨mp + 1 + 1 + 1 + 1, 22, none⟩) HX.out.1.props HX.out.2.1.cx.1 HX.out.2.1.cx.2)
          have HY := Lib.hid (And.intro hJ (And.intro hmi.props (And.intro b8 hmc)))
          clear hd1 hd2 hmi hJ b8 hmc
          go_wp2_with (refine wpList_make_full _ rfl _ _ 22 rfl g 9 iS _ 1 Tryz.underlying22 hiS hzS hsS .i64 .i64 _ _ n rfl rfl rfl rfl ?e1 ?e2 ?e3 ?e4)
          case e1 => first | (rw [hbS]; omega) | omega
          case e2 => unfold maxLen; omega
          case e3 => rw [← HG.out]; exact HY.out.2.2.1.size
          case e4 =>
            intro w9 hown9 hg9
            rw [madeCells_list1 _ _ rfl, ← mixRow_zero ((List.range n).map (strAt (outS B J)))] at hown9
            generalize hoa : w8.heap.size = oa at *
            have hoag : g ≤ oa := by rw [← hoa, ← HG.out]; exact HY.out.2.2.1.size
            have b89 : Below oa w8 w9 := by rw [← hoa]; exact (Below.refl _ _).grown hg9 (Nat.le_refl _) (fun j h => by cases h)
            have H9 := Lib.hid (And.intro hown9 b89)
            have hoa9 := owns_lt hown9
            clear hown9 hg9 b89
            go_wp2_with (refine wpList_make_full _ rfl _ _ 23 rfl g 4 iB _ 1 Tryz.underlying23 hiB hzB hsB .i64 .i64 _ _ n rfl rfl rfl rfl ?m1 ?m2 ?m3 ?m4)
            case m1 => first | (rw [hbB]; omega) | omega
            case m2 => unfold maxLen; omega
            case m3 => omega
            case m4 =>
              intro w10 hown10 hg10
              rw [madeCells_list1 _ _ rfl, ← mixRow_zero ((List.range n).map (boolAt (hasB B)))] at hown10
              generalize hha : w9.heap.size = ha at *
              have b9 : Below ha w9 w10 := by rw [← hha]; exact (Below.refl _ _).grown hg10 (Nat.le_refl _) (fun j h => by cases h)
              have ho10 := own_block H9.out.1 (b9.block oa hoa9)
              have H10 := Lib.hid (And.intro ho10 (And.intro hown10 (H9.out.2.trans (b9.mono (by omega)))))
              clear ho10 hown10 hg10 b9
              go_wp2_with fail
              go_loopw [119] (fun iv wr => ∃ k : Nat, k ≤ n ∧ iv = .int .i64 k ∧ Hid (wr.ownsRow g 9 1 (.slice (some ⟨oa, 0, none⟩) n n) n (mixRow ((List.range n).map (strAt (outS B J))) (.string ByteArray.empty) n k) ∧ wr.ownsRow g 4 1 (.slice (some ⟨ha, 0, none⟩) n n) n (mixRow ((List.range n).map (boolAt (hasB B))) (.bool false) n k) ∧ Below oa w8 wr)) (fun iv _ => n - (intOf iv).toNat)
              case atStart => exact ⟨0, Nat.zero_le _, rfl, H10.out⟩
              case round =>
                obtain ⟨k, hk, rfl, HK⟩ := hrel
                by_cases hlt : k < n
                · have c22 := (HK.out.2.2.cell (p := ⟨mp + 1 + 1 + 1 + 1, 22, none⟩) (by rw [← hoa]; exact block_lt_of_cell HY.out.2.2.2)).trans HY.out.2.2.2
                  obtain ⟨kl, hkl⟩ := ref_key k (by omega)
                  have hlook := (HY.out.2.1.below (by rw [hoa]; exact HK.out.2.2)).look K44 Tryz.underlying156 (zero9 _) hkl true
                  have hwr := wrap_u32 k (by omega)
                  have b0 : (0 : Int) ≤ (k : Int) := by omega
                  have b1 : (k : Int) < (n : Int) := by omega
                  have hx1 := (List.getElem?_eq_some_iff.2 ⟨by simpa using hlt, by simp⟩ : ((List.range n).map (strAt (outS B J)))[k]? = some (strAt (outS B J) k))
                  have hx2 := (List.getElem?_eq_some_iff.2 ⟨by simpa using hlt, by simp⟩ : ((List.range n).map (boolAt (hasB B)))[k]? = some (boolAt (hasB B) k))
                  cases hB : B k with
                  | true =>
                    rw [HY.out.1.glo k hlt hB] at hlook
                    simp only [if_true, Option.getD_none, Option.isSome_none, ref] at hlook
                    have g1 := mixRow_skip _ (.string ByteArray.empty) n k hlt (by simp) (hx1.trans (by simp [outS, hB]))
                    have g2 := mixRow_skip _ (.bool false) n k hlt (by simp) (hx2.trans (by simp [hasB, hB]))
                    have HGG := Lib.hid (And.intro g1 g2)
                    clear g1 g2 hx1 hx2 hB hkl
                    go_wp2_with fail
                    exact ⟨⟨k + 1, by omega, by go_num, by rw [HGG.out.1]; exact HK.out.1, by rw [HGG.out.2]; exact HK.out.2.1, HK.out.2.2⟩, by simp [intOf]; omega⟩
                  | false =>
                    rw [HY.out.1.loc k hlt hB] at hlook
                    simp only [if_true, Option.getD_some, Option.isSome_some, ref] at hlook
                    have g1 := mixRow_set _ (.string ByteArray.empty) (.string (nm (J k))) n k hlt (by simp) (hx1.trans (by simp [outS, hB]))
                    have g2 := mixRow_set _ (.bool false) (.bool true) n k hlt (by simp) (hx2.trans (by simp [hasB, hB]))
                    obtain ⟨y1, z1⟩ := own_some HK.out.1 (j := k) (by omega)
                    obtain ⟨y2, z2⟩ := own_some HK.out.2.1 (j := k) (by omega)
                    have f1 := HK.out.1.frozenAt k
                    have f2 := HK.out.2.1.frozenAt k
                    have s1 := HK.out.1.stored k (.string (nm (J k)))
                    rw [g1] at s1
                    have HS1 := Lib.hid s1
                    clear g1 hx1 hx2 hB hkl s1
                    have G2 := Lib.hid g2
                    clear g2 z2 f2
                    go_upto_region 31 with fail
                    refine wp_forget (fun w' => w'.ownsRow g 9 1 (.slice (some ⟨oa, 0, none⟩) n n) n (mixRow ((List.range n).map (strAt (outS B J))) (.string ByteArray.empty) n (k + 1)) ∧ w'.ownsRow g 4 1 (.slice (some ⟨ha, 0, none⟩) n n) n (mixRow ((List.range n).map (boolAt (hasB B))) (.bool false) n k) ∧ Below oa w8 w') ⟨HS1.out.1, own_grown HK.out.2.1 HS1.out.2 (by omega), HK.out.2.2.setCell (p := ⟨oa, k, none⟩) (Nat.le_refl _) _⟩ ?_
                    clear z1 f1 c22 hlook
                    rintro w11 ⟨hq1, hq2, hq3⟩
                    obtain ⟨y2, z2⟩ := own_some hq2 (j := k) (by omega)
                    have f2 := hq2.frozenAt k
                    have s2 := hq2.stored k (.bool true)
                    rw [G2.out] at s2
                    have HQ := Lib.hid (And.intro (own_grown hq1 s2.2 (by omega)) (And.intro s2.1 (hq3.setCell (p := ⟨ha, k, none⟩) (show oa ≤ ha by omega) (.bool true))))
                    clear hq1 hq2 hq3 s2
                    go_wp2_with fail
                    exact ⟨⟨k + 1, by omega, by go_num, HQ.out⟩, by simp [intOf]; omega⟩
                · obtain rfl : k = n := by omega
                  have hr1 := HK.out.1
                  have hr2 := HK.out.2.1
                  rw [mixRow_full _ _ _ (by simp)] at hr1 hr2
                  have HR1 := Lib.hid (And.intro hr1 hr2)
                  clear hr1 hr2
                  go_wp2_with fail
                  first | go_ret2 | go_ret
                  refine ⟨_, J, oa, ha, HY.out.1, rfl, fun h0 => ⟨oa, 0, rfl, fun i hi => ?_⟩, fun h0 => ⟨ha, 0, rfl, fun i hi => ?_⟩, ?_⟩
                  · rw [Nat.zero_add, HR1.out.1.cellAt i (by omega), range_map_at _ _ _ hi]
                  · rw [Nat.zero_add, HR1.out.2.cellAt i (by omega), range_map_at _ _ _ hi]
                  · rw [HG.out]
                    exact HY.out.2.2.1.trans (HK.out.2.2.mono hoag)
end Go.Proofs.YtokehapgddicjaaGreatFmt
