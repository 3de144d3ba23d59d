/- The linker's context of a public path and of the chunks' final paths. -/
import Derived.Test.YtdoakedpkjlipaaFmtJ11
import Derived.Great.BuildSlice
namespace Go.Proofs.YtdoakedpkjlipaaFmt
open Go.RowKit
set_option linter.unusedVariables false
theorem chunkM_info : (Tryf.prog.info? 61).map (fun i => (i.zero, i.size, i.bytes)) = some (some (.agg (chunkR ByteArray.empty)), 22, 336) := by kernel_rfl
def NewCtxOk (pub : ByteArray) (n : Nat) (R : Nat → ByteArray) (w : World) (e : Ending) (w' : World) : Prop :=
  ∃ c o ca, e = .returned (.pointer (some ⟨c, 0, none⟩)) ∧ CtxAt w' c o pub ∧ w'.cell? ⟨c, 17, none⟩ = some (.slice ca n n) ∧ ChunksAt w' ca n R ∧ Below w.heap.size w w'
/-- Cell j of the chunks' row, of which the first k hold their path. -/
def cF (R : Nat → ByteArray) (k j : Nat) : Option Value := (chunkR (if j / 22 < k then R (j / 22) else ByteArray.empty))[j % 22]?
theorem chunkR_other (s t : ByteArray) (r : Nat) (h : r ≠ 6) : (chunkR s)[r]? = (chunkR t)[r]? := by
  by_cases h22 : r < 22
  · have : r = 0 ∨ r = 1 ∨ r = 2 ∨ r = 3 ∨ r = 4 ∨ r = 5 ∨ r = 7 ∨ r = 8 ∨ r = 9 ∨ r = 10 ∨ r = 11 ∨ r = 12 ∨ r = 13 ∨ r = 14 ∨ r = 15 ∨ r = 16 ∨ r = 17 ∨ r = 18 ∨ r = 19 ∨ r = 20 ∨ r = 21 := by omega
    rcases this with h | h | h | h | h | h | h | h | h | h | h | h | h | h | h | h | h | h | h | h | h <;> subst h <;> rfl
  · rw [Array.getElem?_eq_none (by rw [chunk_size]; omega), Array.getElem?_eq_none (by rw [chunk_size]; omega)]
theorem cF_zero (R : Nat → ByteArray) (n j : Nat) (h : j < n * 22) : (madeCells (Value.agg (chunkR ByteArray.empty)).cells (n * 22)).toList[j]? = cF R 0 j := by
  have h1 : (Value.agg (chunkR ByteArray.empty)).cells = chunkR ByteArray.empty := by kernel_rfl
  rw [h1, Array.getElem?_toList]
  unfold madeCells cF
  rw [if_neg (by omega), Array.getElem?_map, Array.getElem?_range, if_pos h]
  have h2 : j % 22 < (chunkR ByteArray.empty).size := by rw [chunk_size]; omega
  simp only [Option.map_some, chunk_size]
  rw [getElem!_pos (chunkR ByteArray.empty) (j % 22) h2, Array.getElem?_eq_getElem h2]
theorem cF_step (R : Nat → ByteArray) (n k : Nat) (xs : List Value) (hl : xs.length = n * 22) (h : ∀ j, j < n * 22 → xs[j]? = cF R k j) (hk : k < n) : ∀ j, j < n * 22 → (xs.set (k * 22 + 6) (.string (R k)))[j]? = cF R (k + 1) j := by
  intro j hj
  rw [List.getElem?_set]
  by_cases he : k * 22 + 6 = j
  · subst he
    rw [if_pos rfl, if_pos (by omega)]
    unfold cF
    rw [show (k * 22 + 6) / 22 = k by omega, show (k * 22 + 6) % 22 = 6 by omega, if_pos (by omega)]
    rfl
  · rw [if_neg he, h j hj]
    unfold cF
    by_cases h1 : j / 22 < k
    · rw [if_pos h1, if_pos (by omega)]
    · rw [if_neg h1]
      by_cases h2 : j / 22 < k + 1
      · rw [if_pos h2]
        exact chunkR_other _ _ _ (by omega)
      · rw [if_neg h2]
noncomputable def optsR (pub : ByteArray) : Array Value := (Tryf.prog.built 116 [(25, .string pub)]).getD #[]
theorem opts_built (pub : ByteArray) : Tryf.prog.built 116 [(25, .string pub)] = some (optsR pub) := by
  have h : (Tryf.prog.built 116 [(25, .string pub)]).isSome = true := by kernel_rfl
  obtain ⟨v, hv⟩ := Option.isSome_iff_exists.1 h
  unfold optsR
  rw [hv]
  rfl
theorem opts_pub (pub : ByteArray) : (optsR pub)[31]? = some (.string pub) := by kernel_rfl
noncomputable def ctxR (p q : Value) : Array Value := (Tryf.prog.built 144 [(0, p), (6, q)]).getD #[]
theorem ctx_built (o : Nat) (g n m : Nat) : Tryf.prog.built 144 [(0, .pointer (some ⟨o, 0, none⟩)), (6, .slice (some ⟨g, 0, none⟩) n m)] = some (ctxR (.pointer (some ⟨o, 0, none⟩)) (.slice (some ⟨g, 0, none⟩) n m)) := by
  have h : (Tryf.prog.built 144 [(0, .pointer (some ⟨o, 0, none⟩)), (6, .slice (some ⟨g, 0, none⟩) n m)]).isSome = true := by kernel_rfl
  obtain ⟨v, hv⟩ := Option.isSome_iff_exists.1 h
  unfold ctxR
  rw [hv]
  rfl
theorem ctx_opt (o : Nat) (g n m : Nat) : (ctxR (.pointer (some ⟨o, 0, none⟩)) (.slice (some ⟨g, 0, none⟩) n m))[0]? = some (.pointer (some ⟨o, 0, none⟩)) := by kernel_rfl
theorem ctx_chunks (o : Nat) (g n m : Nat) : (ctxR (.pointer (some ⟨o, 0, none⟩)) (.slice (some ⟨g, 0, none⟩) n m))[17]? = some (.slice (some ⟨g, 0, none⟩) n m) := by kernel_rfl
theorem built_one {P : Program} {t : TypeId} {n : Nat} {x : Operand} {a : Act} {v : Value} {c : Array Value} (h : a.eval x = v) (hb : P.built t [(n, v)] = some c) : P.built t ((#[(n, x)] : Array (Nat × Operand)).map fun (i, x) => (i, a.eval x)).toList = some c := by
  subst h; simpa using hb
theorem built_two {P : Program} {t : TypeId} {n m : Nat} {x y : Operand} {a : Act} {v u : Value} {c : Array Value} (h : a.eval x = v) (h2 : a.eval y = u) (hb : P.built t [(n, v), (m, u)] = some c) : P.built t ((#[(n, x), (m, y)] : Array (Nat × Operand)).map fun (i, x) => (i, a.eval x)).toList = some c := by
  subst h; subst h2; simpa using hb
theorem wp_buildTo {P : Program} {o : Oper} {a : Act} {w : World} {K : Act → World → Prop} {Q : Exit → Act → World → Prop} (t : TypeId) (parts : Array (Nat × Operand)) (ho : o.op = .build t parts)
    (d : Option Tmp) (hd : o.dst = d) (cells : Array Value) (hf : P.built t (parts.map fun (i, x) => (i, a.eval x)).toList = some cells)
    (h : K (a.put d (.agg cells)) w) : o.wp P a w K Q := by
  subst hd
  refine wp_build t parts ho (by rw [hf]; rfl) ?_
  rw [hf]
  exact h
set_option maxRecDepth 100000 in
set_option maxHeartbeats 400000 in
theorem newCtx_any (pub : ByteArray) (n cc : Nat) (fa : Option Addr) (R : Nat → ByteArray) (w : World) (hn : n ≤ 4096) (hr : RowAt w fa n (fun i => .string (R i))) :
    Calls Tryf.prog 11 #[.string pub, .slice fa n cc] w (NewCtxOk pub n R w) := by
  obtain ⟨i0, hi, hz0, hz1, hz2⟩ := info_parts chunkM_info
  have Hr := Lib.hid hr
  clear hr
  go_enter Tryf.func11, Tryf.ntmps11
  go_wp2_with (at_make; refine wpList_make_full _ rfl _ _ 47 rfl w.heap.size 61 i0 _ 22 Tryf.underlying47 hi hz0 hz1 .i64 .i64 _ _ n rfl rfl rfl rfl (by rw [hz2]; omega) (by unfold maxLen; omega) (Nat.le_refl _) ?_; intro w1 hown hg; have HO := Lib.hid hown; have HG := Lib.hid hg; clear hown hg)
  have hg := HG.out
  have hb0 : Below w.heap.size w w1 := (Below.refl _ _).grown hg (Nat.le_refl _) (fun k h => by cases h)
  have hrow0 : ∃ xs, w1.ownsRow w.heap.size 61 22 (.slice (some ⟨w.heap.size, 0, none⟩) n n) n xs ∧ ∀ j, j < n * 22 → xs[j]? = cF R 0 j := ⟨_, HO.out, cF_zero R n⟩
  clear hg
  clear HG
  obtain ⟨xs0, hx0, hx1⟩ := hrow0
  clear HO
  go_loopw [6] (fun i wr => ∃ (k : Nat) (xs : List Value), k ≤ n ∧ i = .int .i64 k ∧ wr.ownsRow w.heap.size 61 22 (.slice (some ⟨w.heap.size, 0, none⟩) n n) n xs ∧ (∀ j, j < n * 22 → xs[j]? = cF R k j) ∧ Below w.heap.size w wr) (fun i _ => n - (intOf i).toNat)
  case atStart => exact ⟨0, xs0, Nat.zero_le _, rfl, hx0, hx1, hb0⟩
  case round =>
    obtain ⟨k, xs, hk, rfl, hown, hxs, hb⟩ := hrel
    by_cases hlt : k < n
    · obtain ⟨b, o, rfl, hbl, hcell⟩ := Hr.out.blk (by omega)
      have hc := (hb.cell (p := ⟨b, o + k, none⟩) hbl).trans (hcell k hlt)
      clear hcell
      have h6 := (hown.cellAt (k * 22 + 6) (by omega)).trans (hxs _ (by omega))
      have h6' : wr.cell? ⟨w.heap.size, k * 22 + 6, none⟩ = some (.string ByteArray.empty) := by
        rw [h6]; unfold cF; rw [show (k * 22 + 6) / 22 = k by omega, show (k * 22 + 6) % 22 = 6 by omega, if_neg (by omega)]; rfl
      have hf := hown.frozenAt (k * 22 + 6)
      have hst := hown.stored (k * 22 + 6) (.string (R k))
      have hstep := cF_step R n k xs hown.1 hxs hlt
      have HS := Lib.hid hst
      have HP := Lib.hid hstep
      have HB2 := Lib.hid hb
      clear hst hb hstep hxs hown h6
      go_wp2_with fail
      exact ⟨⟨k + 1, _, by omega, by go_num, HS.out.1, HP.out, HB2.out.setCell (by simp) _⟩, by simp [intOf]; omega⟩
    · obtain rfl : k = n := by omega
      have HO2 := Lib.hid hown
      have HX := Lib.hid hxs
      have HB2 := Lib.hid hb
      clear hown hb hxs
      go_wp2_with fail
      refine wp_buildTo 116 #[(25, .tmp 24)] rfl (some 25) rfl (optsR pub) (built_one rfl (opts_built pub)) ?_
      go_wp2_with fail
      have hb3 := (HB2.out.alloc HB2.out.size (.cells (optsR pub) 116))
      have hwl : w.heap.size < wr.heap.size := by
        rcases HO2.out.2 with ⟨h', _⟩ | ⟨g', cap', cur, h', _, hg, _⟩
        · simp at h'
        · simp only [Value.slice.injEq, Option.some.injEq, Addr.mk.injEq, and_true, true_and] at h'
          obtain ⟨rfl, rfl⟩ := h'
          exact (Array.getElem?_eq_some_iff.1 hg).1
      have e1 := heap_alloc_new wr (.cells (optsR pub) 116)
      have e2 : wr.heap.size + 1 = (wr.alloc (.cells (optsR pub) 116)).heap.size := by simp
      go_ret
      refine ⟨wr.heap.size + 1, wr.heap.size, some ⟨w.heap.size, 0, none⟩, rfl, ⟨?_, ?_⟩, ?_, ?_, hb3.alloc (Nat.le_trans HB2.out.size (by simp)) _⟩
      · rw [e2]; exact (cell_of_row _ _ 0 _ _ _ (heap_alloc_new (wr.alloc (.cells (optsR pub) 116)) _)).trans rfl
      · refine (cell_of_row _ _ 31 _ _ _ (by rw [heap_alloc_old _ _ (by simp)]; exact e1)).trans (opts_pub pub)
      · rw [e2]; exact (cell_of_row _ _ 17 _ _ _ (heap_alloc_new (wr.alloc (.cells (optsR pub) 116)) _)).trans rfl
      · intro h0
        refine ⟨w.heap.size, 0, rfl, fun j hj r hr => ?_⟩
        have h1 := (HO2.out.cellAt (j * 22 + r) (by omega)).trans (HX.out (j * 22 + r) (by omega))
        unfold cF at h1
        rw [show (j * 22 + r) / 22 = j by omega, show (j * 22 + r) % 22 = r by omega, if_pos hj] at h1
        rw [Nat.zero_add]
        refine Eq.trans ?_ h1
        rw [World.cell?_alloc_some _ _ _ ?_, World.cell?_alloc_some _ _ _ ?_]
        · rw [h1, Array.getElem?_eq_getElem (by rw [chunk_size]; exact hr)]; rfl
        · rw [World.cell?_alloc_some _ _ _ ?_] <;> (rw [h1, Array.getElem?_eq_getElem (by rw [chunk_size]; exact hr)]; rfl)
end Go.Proofs.YtdoakedpkjlipaaFmt
