/- The sum turned to a token. -/
import Derived.Test.YtlajoolgfhlmkaaGreatFmtT3
import Derived.Deep.CutRange
import Derived.OneCell
import Derived.BigQuiet
import Derived.Deep.QuietTactic
namespace Go.Proofs.YtlajoolgfhlmkaaGreatFmt
open Go.RowKit
set_option linter.unusedVariables false

theorem ta_no {A T zt : TypeId} (hA : Tryz.prog.underlying A = some (.pointer zt)) (hne : T ≠ A) (hz : (Tryz.prog.info? A).map (·.zero) = some (some (.pointer none))) (v : Value) (w : World) :
    (Instr.typeAssert (.iface T v) 49 A true).run Tryz.prog w = .ok (.tuple #[.pointer none, .bool false]) w := by
  obtain ⟨j, hj, hz'⟩ := Option.map_eq_some_iff.1 hz
  simp [Instr.typeAssert, run_underlying hA, zeroValue, typeInfo, hj, hz', hne]
theorem ta_yes {A zt : TypeId} (hA : Tryz.prog.underlying A = some (.pointer zt)) (v : Value) (w : World) :
    (Instr.typeAssert (.iface A v) 49 A true).run Tryz.prog w = .ok (.tuple #[v, .bool true]) w := by
  simp [Instr.typeAssert, run_underlying hA]
theorem owns_lt {w : World} {base : Nat} {e : TypeId} {size g n cap : Nat} {xs : List Value} (h : w.ownsRow base e size (.slice (some ⟨g, 0, none⟩) n cap) n xs) : g < w.heap.size := by
  rcases h.2 with ⟨h', _⟩ | ⟨g', cap', cur, h', _, hg, _⟩
  · cases h'
  · simp only [Value.slice.injEq, Option.some.injEq, Addr.mk.injEq, and_true, true_and] at h'
    obtain ⟨rfl, rfl⟩ := h'
    exact (Array.getElem?_eq_some_iff.1 hg).1
theorem meth_val (v : Value) (w : World) : (method 301 53 v "github.com/evanw/esbuild/internal/css_parser.convertToToken").run Tryz.prog w = .ok (105, v) w := by kernel_rfl
theorem meth_num (v : Value) (w : World) : (method 301 45 v "github.com/evanw/esbuild/internal/css_parser.convertToToken").run Tryz.prog w = .ok (15, v) w := by kernel_rfl
/-- The terms of a slice. -/
structure Terms (w : World) (a : Option Addr) (ts : List TD) : Prop where
  row : RowAt w a (ts.length * 2) fun i => (cellsD ts).getD i undef
  ok : ∀ t ∈ ts, t.ok w
theorem Terms.below {w w' : World} {a : Option Addr} {ts : List TD} (h : Terms w a ts) (hb : Below w.heap.size w w') : Terms w' a ts := ⟨h.row.below hb, fun t ht => TD.ok_below (h.ok t ht) hb⟩

theorem owns_block {w w' : World} {base : Nat} {e : TypeId} {size g n cap : Nat} {xs : List Value} (h : w.ownsRow base e size (.slice (some ⟨g, 0, none⟩) n cap) n xs) (hb : w'.heap[g]? = w.heap[g]?) : w'.ownsRow base e size (.slice (some ⟨g, 0, none⟩) n cap) n xs := by
  refine ⟨h.1, ?_⟩
  rcases h.2 with ⟨h', _⟩ | ⟨g', cap', cur, h', h1, hg, h2⟩
  · cases h'
  · have h3 := h'
    simp only [Value.slice.injEq, Option.some.injEq, Addr.mk.injEq, and_true, true_and] at h'
    obtain ⟨rfl, rfl⟩ := h'
    exact Or.inr ⟨_, _, cur, h3, h1, hb.trans hg, h2⟩
theorem owns_below {w w' : World} {base : Nat} {e : TypeId} {size n : Nat} {v : Value} {xs : List Value} (h : w.ownsRow base e size v n xs) (hb : Below w.heap.size w w') : w'.ownsRow base e size v n xs := by
  refine ⟨h.1, ?_⟩
  rcases h.2 with h' | ⟨g', cap', cur, h', h1, hg, h2⟩
  · exact Or.inl h'
  · exact Or.inr ⟨g', cap', cur, h', h1, (hb.block _ (Array.getElem?_eq_some_iff.1 hg).1).trans hg, h2⟩
/-- The sum under way: the result's cells, the variable 'tokens', its row. -/
structure SumSt (w wr : World) (B6 n2 : Nat) (l : List Tok) : Prop where
  res : wr.heap[w.heap.size]? = some (.cells tok0 41 (0, 0))
  var : wr.heap[B6]? = some (.cells #[.slice (some ⟨w.heap.size + 1, 0, none⟩) l.length n2] 44 (0, 0))
  own : wr.ownsRow w.heap.size 41 7 (.slice (some ⟨w.heap.size + 1, 0, none⟩) l.length n2) l.length (cellsT l)
  bel : Below w.heap.size w wr
  ne : w.heap.size + 1 < B6
theorem SumSt.lt {w wr : World} {B6 n2 : Nat} {l : List Tok} (h : SumSt w wr B6 n2 l) : B6 < wr.heap.size := (Array.getElem?_eq_some_iff.1 h.var).1
theorem SumSt.below {w wr w' : World} {B6 n2 : Nat} {l : List Tok} (h : SumSt w wr B6 n2 l) (hb : Below wr.heap.size wr w') : SumSt w w' B6 n2 l := by
  have := h.lt
  have := h.ne
  exact ⟨(hb.block _ (by omega)).trans h.res, (hb.block _ h.lt).trans h.var, owns_below h.own hb, h.bel.trans (hb.mono h.bel.size), h.ne⟩
theorem SumSt.alloc {w wr : World} {B6 n2 : Nat} {l : List Tok} (h : SumSt w wr B6 n2 l) (o : Obj) : SumSt w (wr.alloc o) B6 n2 l := h.below ((Below.refl _ _).alloc (Nat.le_refl _) _)
theorem SumSt.cell {w wr : World} {B6 n2 : Nat} {l : List Tok} (h : SumSt w wr B6 n2 l) : wr.cell? ⟨B6, 0, none⟩ = some (.slice (some ⟨w.heap.size + 1, 0, none⟩) l.length n2) := by
  have := cell_of_row _ _ 0 _ _ _ h.var
  simpa using this
theorem SumSt.grown {w wx w4 : World} {B6 n2 m : Nat} {l l' : List Tok} (h : SumSt w wx B6 n2 l) (hg : wx.grownBy w4 (some (w.heap.size + 1))) (hm : l'.length = m)
    (hown : w4.ownsRow w.heap.size 41 7 (.slice (some ⟨w.heap.size + 1, 0, none⟩) m n2) m (cellsT l')) : SumSt w (w4.setCell ⟨B6, 0, none⟩ (.slice (some ⟨w.heap.size + 1, 0, none⟩) m n2)) B6 n2 l' := by
  have h1 := h.lt
  have h2 := h.ne
  subst hm
  refine ⟨?_, ?_, ?_, ?_, h.ne⟩
  · rw [heap_setCell_other _ _ _ _ (by show w.heap.size ≠ B6; omega), hg.block _ (by omega) (fun e => by have := Option.some.inj e; omega)]
    exact h.res
  · exact one_setCell ((hg.block _ (by omega) (fun e => by have := Option.some.inj e; omega)).trans h.var)
  · exact ownsRow_setCell_other hown (fun e => by have := Option.some.inj e; simp at this; omega) _
  · exact (h.bel.grown hg h.bel.size (fun k hk => by cases hk; omega)).setCell (by show w.heap.size ≤ B6; omega) _
theorem SumSt.frz {w wx w4 : World} {B6 n2 : Nat} {l : List Tok} (h : SumSt w wx B6 n2 l) (hg : wx.grownBy w4 (some (w.heap.size + 1))) : B6 < w4.heap.size ∧ w4.frozen? ⟨B6, 0, none⟩ = false ∧ w4.cell? ⟨B6, 0, none⟩ = some (.slice (some ⟨w.heap.size + 1, 0, none⟩) l.length n2) ∧ Below w.heap.size w w4 := by
  have h1 := h.lt
  have h2 := h.ne
  have e := (hg.block B6 (by omega) (fun e => by have := Option.some.inj e; omega)).trans h.var
  refine ⟨(Array.getElem?_eq_some_iff.1 e).1, frozen_of_row _ _ _ _ _ e, ?_, h.bel.grown hg h.bel.size (fun k hk => by cases hk; omega)⟩
  have := cell_of_row _ _ 0 _ _ _ e
  simpa using this

theorem neg_inf (w : World) : (Op.unary .neg (.float .f64 negInf)).run Tryz.prog w = .ok (.float .f64 posInf) w := by kernel_rfl
abbrev twoR (ss : ByteArray) : Array Value := #[.pointer none, .string { data := #[45] }, .int .i32 0, .int .u32 0, .int .u16 0, .int .u8 22, .int .u8 3, .pointer none, .string ss, .int .i32 0, .int .u32 0, .int .u16 0, .int .u8 29, .int .u8 0]
theorem twoR_one (ss : ByteArray) : ∀ u ∈ (twoR ss).toList, u.oneCell' = true := List.all_eq_true.1 (show (twoR ss).toList.all (fun u => u.oneCell') = true from rfl)
/-- The sum's token. -/
def SumOk (ts : List TD) (w : World) (e : Ending) (w' : World) : Prop := ∃ g g2 m c, e = .returned (.tuple #[.agg (tokR 33 { data := #[40] } (.pointer (some ⟨g, 0, none⟩)) 0), .bool true]) ∧ m = ts.length * 2 - 1 ∧ w'.cell? ⟨g, 0, none⟩ = some (.slice (some ⟨g2, 0, none⟩) m c) ∧ RowAt w' (some ⟨g2, 0, none⟩) (m * 7) (fun i => (cellsT (toksOf ts)).getD i undef) ∧ w.heap.size ≤ g ∧ w.heap.size ≤ g2 ∧ Below w.heap.size w w'
def SumNo (w : World) (e : Ending) (w' : World) : Prop := e = .returned (.tuple #[.agg tok0, .bool false]) ∧ Below w.heap.size w w'

set_option maxRecDepth 100000 in
set_option maxHeartbeats 4000000 in
theorem sum_first (q : Nat) (a : Option Addr) (n c : Nat) (t0 : TD) (ts : List TD) (ws : Int) (w : World) (hq : w.cell? ⟨q, 0, none⟩ = some (.slice a n c)) (hn : ts.length + 1 = n) (hn2 : n ≤ 65536) (hc1 : n ≤ c) (hn1 : 2 ≤ n) (hc2 : c ≤ maxLen) (hT : Terms w a (t0 :: ts)) (h0 : t0.kd = 0) :
    Calls Tryz.prog 13 #[.pointer (some ⟨q, 0, none⟩), .int .u8 ws] w fun e w' => (SumOk (t0 :: ts) w e w' ∧ ∀ t ∈ ts, t.kd ≤ 1) ∨ (SumNo w e w' ∧ ∃ t ∈ ts, 1 < t.kd) := by
  obtain ⟨i0, hi, hz0, hz1, hz2⟩ := info_parts tok_info
  have hqb : q < w.heap.size := block_lt_of_cell hq
  obtain ⟨b, o, ha, hbl, h2⟩ := hT.row.blk (by simp)
  have hc0 := h2 0 (by simp)
  have hok := hT.ok t0 (by simp)
  have HT := Lib.hid hT
  clear h2 hT
  obtain ⟨kd, s, tb, tc⟩ := t0
  dsimp only at h0
  subst h0
  have hv : w.heap[tb]? = some (.cells (valR s) 55 (0, 0)) := hok
  have HV := Lib.hid hv
  have htb : tb < w.heap.size := (Array.getElem?_eq_some_iff.1 hv).1
  have hc0' : w.cell? ⟨b, o, none⟩ = some (.iface 53 (.pointer (some ⟨tb, 0, none⟩))) := by simpa [cellsD, TD.data] using hc0
  clear hc0 hok hv
  subst ha
  have t0 := fun v wx => ta_no (T := 53) Tryz.underlying62 (by decide) (by kernel_rfl) v wx
  have mv := fun v wx => meth_val v wx
  unfold maxLen at hc2
  go_enter Tryz.func13, Tryz.ntmps13
  go_wp2_with (first | (at_make; go_loud (refine wpList_make_own _ rfl _ _ 44 rfl w.heap.size 41 i0 _ 7 Tryz.underlying44 hi hz0 hz1 .i64 .i64 _ (n * 2) rfl rfl (by rfl) (by rw [hz2]; omega) (by unfold maxLen; omega) (by simp) ?_); intro w1 hown1 hg1; have hsz : (w.alloc (.cells tok0 41)).heap.size = w.heap.size + 1 := (by simp); rw [hsz] at hown1; have hb1 : Below w.heap.size w w1 := ((Below.refl _ _).alloc (Nat.le_refl _) _).grown hg1 (by simp) (fun k h => by cases h); have q1 := (hb1.cell (p := ⟨q, 0, none⟩) hqb).trans hq; have c1 := (hb1.cell (p := ⟨b, o, none⟩) hbl).trans hc0'; have q1b := block_lt_of_cell q1; have c1b := block_lt_of_cell c1; have hv1 := (hb1.block tb htb).trans HV.out; have r1 : w1.heap[w.heap.size]? = some (.cells tok0 41 (0, 0)) := (by rw [hg1.block _ (by simp) (fun h => by cases h)]; exact heap_alloc_new _ _); have s1 : w.heap.size + 1 < w1.heap.size := (owns_lt hown1); have H1 := Lib.hid (And.intro hown1 (And.intro hb1 (And.intro hv1 r1))); clear hown1 hg1 hb1 hv1 r1) | (go_at_call 105; go_loud (refine (value_any tb s ws _ (by rw [heap_alloc_old _ _ (by omega)]; exact H1.out.2.2.1)).mono ?_); rintro e w2 ⟨rfl, hb2⟩; go_loud (have S2 : SumSt w w2 w1.heap.size (n * 2) [] := SumSt.below ⟨by rw [heap_alloc_old _ _ (by omega)]; exact H1.out.2.2.2, heap_alloc_new _ _, H1.out.1.alloc _, H1.out.2.1.alloc H1.out.2.1.size _, s1⟩ hb2); have k2 := S2.cell; have l2 := S2.lt; have q2 := (S2.bel.cell (p := ⟨q, 0, none⟩) hqb).trans hq; have q2b := block_lt_of_cell q2; have HS2 := Lib.hid S2; clear S2 hb2) | (at_builtin; go_loud (refine wpList_append_fits _ rfl (.tmp 79) (.tmp 81) 44 rfl w.heap.size 41 i0 7 Tryz.underlying44 hi hz1 (w.heap.size + 1) 0 (n * 2) _ rfl (((HS2.out.alloc _).alloc _).own) ⟨w2.heap.size + 1, 0, none⟩ 1 1 (Tok.val s).cells rfl rfl (new_row _ _ (by simp) (tokR 29 s (.pointer none) 0) _ _) (Tok.one _) (by omega) ?_); intro w3 hown3 hg3; go_loud (have Z3 := ((HS2.out.alloc _).alloc _).frz hg3); go_loud (have S3 := ((HS2.out.alloc _).alloc _).grown (l' := [.val s]) (m := 1) hg3 rfl (by rw [show cellsT [Tok.val s] = cellsT [] ++ (Tok.val s).cells by simp [cellsT]]; exact hown3)); obtain ⟨l3, f3, k3, b3⟩ := Z3; have q3 := (b3.cell (p := ⟨q, 0, none⟩) hqb).trans hq; have q3b := block_lt_of_cell q3; clear b3; have HS3 := Lib.hid S3; clear S3 hown3 hg3) | fail)
  have hB6 : w1.heap.size = w1.heap.size := rfl
  generalize w1.heap.size = B6 at *
  go_loopw [89] (fun i wr => ∃ k : Nat, i = .int .i64 k ∧ k ≤ ts.length ∧ (∀ t ∈ ts.take k, t.kd ≤ 1) ∧ SumSt w wr B6 (n * 2) (toksOf (⟨0, s, tb, tc⟩ :: ts.take k))) (fun i _ => ts.length - (intOf i).toNat)
  case atStart => exact ⟨0, rfl, Nat.zero_le _, by simp, by simpa [toksOf, toksFrom] using HS3.out⟩
  case round =>
    obtain ⟨k, rfl, hk, hgood, hS⟩ := hrel
    have kS := hS.cell
    have lS := hS.lt
    have HS := Lib.hid hS
    have HGD := Lib.hid hgood
    clear hS hgood
    by_cases hlt : k < ts.length
    · have hc := HT.out.row.blk (by simp)
      obtain ⟨b', o', ha', hbl', h2⟩ := hc
      simp only [Option.some.injEq, Addr.mk.injEq, and_true] at ha'
      obtain ⟨rfl, rfl⟩ := ha'
      have hc0 := (HS.out.bel.cell (p := ⟨b, o + (k + 1) * 2, none⟩) hbl).trans (h2 ((k + 1) * 2) (by simp; omega))
      have hc1 := (HS.out.bel.cell (p := ⟨b, o + ((k + 1) * 2 + 1), none⟩) hbl).trans (h2 ((k + 1) * 2 + 1) (by simp; omega))
      obtain ⟨g0, g1⟩ := cellsD_get (⟨0, s, tb, tc⟩ :: ts) (k + 1) (by simp; omega)
      rw [g0] at hc0
      rw [g1] at hc1
      simp only [List.getElem_cons_succ] at hc0
      have hok := HT.out.ok ts[k] (by simp)
      clear h2 g0 g1
      have hmem : ts[k]? = some ts[k] := List.getElem?_eq_getElem hlt
      have hstep := fun (l : List Tok) (h : l = [.op (ts[k].kd == 1), .val ts[k].s]) => (show toksOf (⟨0, s, tb, tc⟩ :: ts.take k) ++ l = toksOf (⟨0, s, tb, tc⟩ :: ts.take (k + 1)) by rw [toks_step _ _ _ _ hmem, h])
      have hlen : (toksOf (⟨0, s, tb, tc⟩ :: ts.take k)).length = k * 2 + 1 := by rw [toksOf_length _ (by simp)]; simp; omega
      have hgd := fun (h : ts[k].kd ≤ 1) => (show ∀ t ∈ ts.take (k + 1), t.kd ≤ 1 by
        intro t ht
        rw [List.take_succ_eq_append_getElem hlt, List.mem_append, List.mem_singleton] at ht
        rcases ht with ht | rfl
        · exact HGD.out t ht
        · exact h)
      have hbad := fun (h : 1 < ts[k].kd) => (show ∃ t ∈ ts, 1 < t.kd from ⟨ts[k], List.getElem_mem _, h⟩)
      have HST := Lib.hid hstep
      have HGK := Lib.hid hgd
      have HBD := Lib.hid hbad
      have HLN := Lib.hid hlen
      rw [hlen] at kS
      clear hstep hgd hbad hlen hmem
      generalize ts[k] = t at *
      obtain ⟨kd, ss, eb, ec⟩ := t
      unfold TD.data at hc0
      unfold TD.ok at hok
      dsimp only at hc0 hok
      rw [show o + (k + 1) * 2 = o + 2 + k * 2 by omega] at hc0
      rw [show o + ((k + 1) * 2 + 1) = o + 2 + k * 2 + 1 by omega] at hc1
      have hk2 : k * 2 + 3 ≤ n * 2 := by omega
      have hb' : b < wr.heap.size := block_lt_of_cell hc0
      by_cases hk0 : kd = 0
      · subst hk0
        rw [if_pos rfl] at hc0 hok
        have heb : eb < w.heap.size := (Array.getElem?_eq_some_iff.1 hok).1
        have HOK := Lib.hid hok
        clear hok
        have u1 := fun v wx => ta_no (T := 53) Tryz.underlying52 (by decide) (by kernel_rfl) v wx
        have u2 := fun v wx => ta_no (T := 53) Tryz.underlying45 (by decide) (by kernel_rfl) v wx
        · go_wp2_with (at_builtin; (refine wpList_append_fits _ rfl (.tmp 156) (.tmp 160) 44 rfl w.heap.size 41 i0 7 Tryz.underlying44 hi hz1 (w.heap.size + 1) (k * 2 + 1) (n * 2) _ rfl (by have := ((HS.out.alloc (.cells #[.iface 53 (.pointer (some ⟨eb, 0, none⟩)), .int .i32 0] 51)).alloc (.cells (tokR 23 { data := #[43] } (.pointer none) 3) 41)).own; rw [HLN.out] at this; exact this) ⟨wr.heap.size + 1, 0, none⟩ 1 1 (Tok.op false).cells rfl rfl (new_row _ _ (by simp) (tokR 23 { data := #[43] } (.pointer none) 3) _ _) (Tok.one _) (by omega) ?_); intro w4 hown4 hg4; (have Z4 := ((HS.out.alloc _).alloc _).frz hg4); (have S4 := ((HS.out.alloc _).alloc _).grown (l' := toksOf (⟨0, s, tb, tc⟩ :: ts.take k) ++ [.op false]) (m := k * 2 + 2) hg4 (by rw [List.length_append, HLN.out]; rfl) (by rw [cellsT_append]; exact (by simpa [cellsT] using hown4))); obtain ⟨l4, f4, k4, b4⟩ := Z4; (have e4 : w4.heap[wr.heap.size]? = some (.cells #[.iface 53 (.pointer (some ⟨eb, 0, none⟩)), .int .i32 0] 51 (0, 0)) := (hg4.block _ (by simp; omega) (fun h => by have := Option.some.inj h; have := HS.out.ne; omega)).trans (by rw [heap_alloc_old _ _ (by simp)]; exact heap_alloc_new _ _)); have c4 := cell_of_row _ _ 0 _ _ _ e4; simp only [List.getElem?_toArray, List.getElem?_cons_zero] at c4; (have m4 := (Array.getElem?_eq_some_iff.1 e4).1); clear e4; have HS4 := Lib.hid S4; have HG4 := Lib.hid (And.intro hg4 b4); clear S4 hown4 hg4 b4)
          refine (value_any eb ss ws _ (by exact (HS4.out.bel.block _ heb).trans HOK.out)).mono ?_
          rintro e w5 ⟨rfl, hb5⟩
          have S5 := HS4.out.below hb5
          have k5 : w5.cell? ⟨B6, 0, none⟩ = some (.slice (some ⟨w.heap.size + 1, 0, none⟩) (k * 2 + 2) (n * 2)) := by have := S5.cell; rw [List.length_append, HLN.out] at this; exact this
          have l5 := S5.lt
          have HS5 := Lib.hid S5
          clear S5 hb5
          go_wp2_with (at_builtin; (refine wpList_append_fits _ rfl (.tmp 194) (.tmp 196) 44 rfl w.heap.size 41 i0 7 Tryz.underlying44 hi hz1 (w.heap.size + 1) (k * 2 + 2) (n * 2) _ rfl (by have := ((HS5.out.alloc (.cells (tokR 29 ss (.pointer none) 0) 41)).alloc (.cells (tokR 29 ss (.pointer none) 0) 41)).own; rw [List.length_append, HLN.out] at this; exact this) ⟨w5.heap.size + 1, 0, none⟩ 1 1 (Tok.val ss).cells rfl rfl (new_row _ _ (by simp) (tokR 29 ss (.pointer none) 0) _ _) (Tok.one _) (by omega) ?_); intro w6 hown6 hg6; (have Z6 := ((HS5.out.alloc _).alloc _).frz hg6); (have S6 := ((HS5.out.alloc _).alloc _).grown (l' := (toksOf (⟨0, s, tb, tc⟩ :: ts.take k) ++ [.op false]) ++ [.val ss]) (m := k * 2 + 3) hg6 (by rw [List.length_append, List.length_append, HLN.out]; rfl) (by rw [cellsT_append]; exact (by simpa [cellsT] using hown6))); obtain ⟨l6, f6, k6, b6⟩ := Z6; have HS6 := Lib.hid S6; clear S6 hown6 hg6 b6)
          go_roundw
          case rel =>
            refine ⟨k + 1, by go_num, hlt, HGK.out (by decide), ?_⟩
            have h6 := HS6.out
            rw [List.append_assoc] at h6
            rw [← HST.out ([.op false] ++ [.val ss]) rfl]
            exact h6
          case measure => simp [intOf]; omega
      · by_cases hk1 : kd = 1
        · subst hk1
          rw [if_neg (by decide), if_pos rfl] at hc0 hok
          have heb : eb < w.heap.size := (Array.getElem?_eq_some_iff.1 hok.1).1
          have hec : ec < w.heap.size := (Array.getElem?_eq_some_iff.1 hok.2).1
          have HOK := Lib.hid hok
          clear hok
          have e0 := (HS.out.bel.block _ heb).trans HOK.out.1
          have c0 := cell_of_row _ _ 0 _ _ _ e0
          simp only [List.getElem?_toArray, List.getElem?_cons_zero] at c0
          have m0 := (Array.getElem?_eq_some_iff.1 e0).1
          clear e0
          have u1 := fun v wx => ta_yes Tryz.underlying52 v wx
          go_wp2_with fail
          refine (value_any ec ss ws _ (by rw [heap_alloc_old _ _ (by have := HS.out.bel.size; omega)]; exact (HS.out.bel.block _ hec).trans HOK.out.2)).mono ?_
          rintro e w5 ⟨rfl, hb5⟩
          have S5 := (HS.out.alloc _).below hb5
          have k5 : w5.cell? ⟨B6, 0, none⟩ = some (.slice (some ⟨w.heap.size + 1, 0, none⟩) (k * 2 + 1) (n * 2)) := by have := S5.cell; rw [HLN.out] at this; exact this
          have l5 := S5.lt
          have HS5 := Lib.hid S5
          have e4 : w5.heap[wr.heap.size]? = some (.cells #[.iface 52 (.pointer (some ⟨eb, 0, none⟩)), .int .i32 0] 51 (0, 0)) := (hb5.block _ (by simp)).trans (heap_alloc_new _ _)
          have c4 := cell_of_row _ _ 1 _ _ _ e4
          simp only [List.getElem?_toArray, List.getElem?_cons_zero, List.getElem?_cons_succ] at c4
          have m4 := (Array.getElem?_eq_some_iff.1 e4).1
          clear S5 hb5 e4
          go_wp2_with (at_builtin; go_loud (refine wpList_append_fits _ rfl (.tmp 113) (.tmp 118) 44 rfl w.heap.size 41 i0 7 Tryz.underlying44 hi hz1 (w.heap.size + 1) (k * 2 + 1) (n * 2) _ rfl (by have := ((HS5.out.alloc (.cells (tokR 29 ss (.pointer none) 0) 41)).alloc (.cells (twoR ss) 41)).own; rw [HLN.out] at this; exact this) ⟨w5.heap.size + 1, 0, none⟩ 2 2 (twoR ss).toList rfl rfl (new_row _ _ (by simp) (twoR ss) _ _) (twoR_one _) (by omega) ?_); intro w6 hown6 hg6; (have Z6 := ((HS5.out.alloc _).alloc _).frz hg6); (have S6 := ((HS5.out.alloc _).alloc _).grown (l' := toksOf (⟨0, s, tb, tc⟩ :: ts.take k) ++ [.op true, .val ss]) (m := k * 2 + 3) hg6 (by rw [List.length_append, HLN.out]; rfl) (by rw [cellsT_append]; exact hown6)); obtain ⟨l6, f6, k6, b6⟩ := Z6; have HS6 := Lib.hid S6; clear S6 hown6 hg6 b6)
          go_roundw
          case rel =>
            refine ⟨k + 1, by go_num, hlt, HGK.out (by decide), ?_⟩
            have h6 := HS6.out
            rw [← HST.out [.op true, .val ss] rfl]
            exact h6
          case measure => simp [intOf]; omega
        · rw [if_neg hk0, if_neg hk1] at hc0 hok
          obtain ⟨f, hf, hok⟩ := hok
          have hkd : 1 < kd := by omega
          have heb : eb < w.heap.size := (Array.getElem?_eq_some_iff.1 hok).1
          have HOK := Lib.hid hok
          clear hok
          have e0 := (HS.out.bel.block _ heb).trans HOK.out
          have m0 := (Array.getElem?_eq_some_iff.1 e0).1
          have d0 := cell_of_row _ _ 0 _ _ _ e0
          have d1 := cell_of_row _ _ 1 _ _ _ e0
          have d2 := cell_of_row _ _ 2 _ _ _ e0
          simp only [List.getElem?_toArray, List.getElem?_cons_zero, List.getElem?_cons_succ] at d0 d1 d2
          clear e0
          have HKD := Lib.hid hkd
          clear hkd hk0 hk1
          have mn := fun v wx => meth_num v wx
          have u3 := fun v wx => ta_no (T := 45) Tryz.underlying62 (by decide) (by kernel_rfl) v wx
          have u1 := fun v wx => ta_no (T := 45) Tryz.underlying52 (by decide) (by kernel_rfl) v wx
          have u2 := fun v wx => ta_yes Tryz.underlying45 v wx
          have hlen := HLN.out
          have hresne := HS.out.ne
          rcases hf with rfl | rfl
          · go_wp2_with (at_builtin; (refine wpList_append_fits _ rfl (.tmp 156) (.tmp 160) 44 rfl w.heap.size 41 i0 7 Tryz.underlying44 hi hz1 (w.heap.size + 1) (k * 2 + 1) (n * 2) _ rfl (by have := ((HS.out.alloc (.cells #[.iface 45 (.pointer (some ⟨eb, 0, none⟩)), .int .i32 0] 51)).alloc (.cells (tokR 23 { data := #[43] } (.pointer none) 3) 41)).own; rw [HLN.out] at this; exact this) ⟨wr.heap.size + 1, 0, none⟩ 1 1 (Tok.op false).cells rfl rfl (new_row _ _ (by simp) (tokR 23 { data := #[43] } (.pointer none) 3) _ _) (Tok.one _) (by omega) ?_); intro w4 hown4 hg4; (have Z4 := ((HS.out.alloc _).alloc _).frz hg4); (have S4 := ((HS.out.alloc _).alloc _).grown (l' := toksOf (⟨0, s, tb, tc⟩ :: ts.take k) ++ [.op false]) (m := k * 2 + 2) hg4 (by rw [List.length_append, HLN.out]; rfl) (by rw [cellsT_append]; exact (by simpa [cellsT] using hown4))); obtain ⟨l4, f4, k4, b4⟩ := Z4; (have e4 : w4.heap[wr.heap.size]? = some (.cells #[.iface 45 (.pointer (some ⟨eb, 0, none⟩)), .int .i32 0] 51 (0, 0)) := (hg4.block _ (by simp; omega) (fun h => by have := Option.some.inj h; have := HS.out.ne; omega)).trans (by rw [heap_alloc_old _ _ (by simp)]; exact heap_alloc_new _ _)); have c4 := cell_of_row _ _ 0 _ _ _ e4; simp only [List.getElem?_toArray, List.getElem?_cons_zero] at c4; have m4 := (Array.getElem?_eq_some_iff.1 e4).1; clear e4; have HS4 := Lib.hid S4; have HG4 := Lib.hid (And.intro hg4 b4); clear S4 hown4 hg4 b4)
            refine (numeric_any eb posInf (Or.inl rfl) ws _ (by exact cell_of_row _ _ 1 _ _ _ ((HS4.out.bel.block _ heb).trans HOK.out))).mono ?_
            rintro e w5 ⟨rfl, hb5⟩
            have S5 := HS4.out.below hb5
            have l5 := S5.lt
            have r5 := (S5.alloc (.cells tok0 41)).res
            have HS5 := Lib.hid S5
            clear S5 hb5
            go_wp2_with (refine wpList_store_row rfl 41 _ _ rfl w.heap.size _ rfl rfl 41 _ r5 (by kernel_rfl) rfl (by kernel_rfl) ?_)
            have hend := setRow_heap (w5.alloc (.cells tok0 41)) w.heap.size _ tok0 41 (0, 0) r5
            exact bodyPost_ret (results_row_tmp rfl _ _ w.heap.size 41 _ (0, 0) _ rfl hend Tryz.underlying41 rfl (by kernel_rfl)) rfl (Or.inr ⟨⟨rfl, below_setRow (HS5.out.alloc _).bel (Nat.le_refl _) _⟩, HBD.out HKD.out⟩)
          · have hst := fun a md wx => run_store (P := Tryz.prog) wx a (.float .f64 negInf) md rfl
            have hst2 := fun a md wx => run_store (P := Tryz.prog) wx a (.float .f64 posInf) md rfl
            have hng := fun wx => neg_inf wx
            go_wp2_with fail
            refine (numeric_any (wr.heap.size + 1) posInf (Or.inl rfl) ws _ (by have := two_second wr (.cells #[.iface 45 (.pointer (some ⟨eb, 0, none⟩)), .int .i32 0] 51) (.cells (numR posInf) 47); exact cell_of_row _ _ 1 _ _ _ this)).mono ?_
            rintro e w5 ⟨rfl, hb5⟩
            have S5 := ((HS.out.alloc _).alloc _).below hb5
            have l5 := S5.lt
            have r5 := (S5.alloc (.cells tok0 41)).res
            have HS5 := Lib.hid S5
            clear S5 hb5
            go_wp2_with (refine wpList_store_row rfl 41 _ _ rfl w.heap.size _ rfl rfl 41 _ r5 (by kernel_rfl) rfl (by kernel_rfl) ?_)
            have hend := setRow_heap (w5.alloc (.cells tok0 41)) w.heap.size _ tok0 41 (0, 0) r5
            exact bodyPost_ret (results_row_tmp rfl _ _ w.heap.size 41 _ (0, 0) _ rfl hend Tryz.underlying41 rfl (by kernel_rfl)) rfl (Or.inr ⟨⟨rfl, below_setRow (HS5.out.alloc _).bel (Nat.le_refl _) _⟩, HBD.out HKD.out⟩)
    · obtain rfl : k = ts.length := by omega
      have hS := HS.out
      have hgd := HGD.out
      rw [List.take_length] at hS hgd kS
      have hlen : (toksOf (⟨0, s, tb, tc⟩ :: ts)).length = n * 2 - 1 := by rw [toksOf_length _ (by simp)]; simp; omega
      rw [hlen] at kS
      have c2 := hS.own.cellAt 2 (by rw [hlen]; omega)
      rw [show (cellsT (toksOf (⟨0, s, tb, tc⟩ :: ts)))[2]? = some (.int .i32 0) from rfl] at c2
      have lw : w.heap.size + 1 < wr.heap.size := owns_lt hS.own
      have HE := Lib.hid hS
      have HG := Lib.hid hgd
      have HL := Lib.hid hlen
      clear HS HGD hS hgd hlen
      have h0n : 0 < n * 2 - 1 := by omega
      go_wp2_with (refine wpList_store_row rfl 41 _ _ rfl w.heap.size _ rfl rfl 41 _ HE.out.res (by kernel_rfl) rfl (by kernel_rfl) ?_)
      have hne := HE.out.ne
      have hend := setRow_heap wr w.heap.size _ (tokR 33 { data := #[40] } (.pointer (some ⟨B6, 0, none⟩)) 0) 41 (0, 0) HE.out.res
      refine bodyPost_ret (results_row_tmp rfl _ _ w.heap.size 41 _ (0, 0) _ rfl hend Tryz.underlying41 rfl (by kernel_rfl)) rfl (Or.inl ⟨⟨B6, w.heap.size + 1, n * 2 - 1, n * 2, rfl, by simp; omega, ?_, fun _ => ⟨_, 0, rfl, fun i hi => ?_⟩, by omega, by omega, below_setRow HE.out.bel (Nat.le_refl _) _⟩, HG.out⟩)
      · have := cell_of_row _ _ 0 _ _ _ ((setRow_other wr w.heap.size B6 (tokR 33 { data := #[40] } (.pointer (some ⟨B6, 0, none⟩)) 0) (by omega)).trans HE.out.var)
        simpa [HL.out] using this
      · have ho := HE.out.own
        rw [HL.out] at ho
        have ho' := owns_block ho (setRow_other wr w.heap.size (w.heap.size + 1) (tokR 33 { data := #[40] } (.pointer (some ⟨B6, 0, none⟩)) 0) (by omega))
        rw [Nat.zero_add, ho'.cellAt i hi]
        show (cellsT _)[i]? = some ((cellsT _).getD i undef)
        rw [List.getD_eq_getElem?_getD, List.getElem?_eq_getElem (by rw [cellsT_length, HL.out]; exact hi)]
        rfl
end Go.Proofs.YtlajoolgfhlmkaaGreatFmt
