/- zzBuildStops: the stops made. -/
import Derived.Test.YtnmjfjfpedbalaaGreatDoorR8
import Derived.Deep.RegionHeld3
import Derived.Deep.Cut
import Derived.Outline
namespace Go.Proofs.YtnmjfjfpedbalaaGreatDoor
open Go.RowKit
set_option linter.unusedVariables false
theorem stop_info : (Tryz.prog.info? 39).map (fun i => (i.zero, i.size, i.bytes)) = some (some (.agg zSt), 15, 104) := by kernel_rfl
theorem step_append_fits {P : Program} {ops : Array Oper} {o : Oper} {a : Act} {w : World} {K : Act → World → Prop} {Q : Exit → Act → World → Prop} {E : Prop}
    (hg : o.guard = none) (s x : Operand) (t : TypeId) (hop : o.op = Op.call { callee := Callee.builtin Builtin.append, args := #[s, x], argTypes := #[t, t] })
    (base : Nat) (e : TypeId) (i : TypeInfo) (size : Nat) (h1 : P.underlying t = some (.slice e)) (h2 : P.info? e = some i) (h4 : i.size = size)
    (g k cap : Nat) (xs : List Value) (hs : a.eval s = .slice (some ⟨g, 0, none⟩) k cap) (hown : w.ownsRow base e size (.slice (some ⟨g, 0, none⟩) k cap) k xs) (ad : Addr) (m c : Nat) (news : List Value) (hx : a.eval x = .slice (some ad) m c) (hn : news.length = m * size)
    (hc : ∀ j u, news[j]? = some u → w.cell? (ad.add j) = some u) (h1c : ∀ u ∈ news, u.oneCell' = true) (b1 : k + m ≤ cap)
    (hK : ∀ w', w'.ownsRow base e size (.slice (some ⟨g, 0, none⟩) (k + m) cap) (k + m) (xs ++ news) → w.grownBy w' (some g) → K (a.put o.dst (.slice (some ⟨g, 0, none⟩) (k + m) cap)) w') :
    if Region.wanted o (yielded ops a.tmps) = true then Oper.wp P o a w K Q else E := by
  have hw : Region.wanted o (yielded ops a.tmps) = true := by simp [Region.wanted, hg]
  rw [if_pos hw]
  obtain ⟨w', hrun, r1, r2⟩ := run_append_fits (P := P) w base t o.type e i size h1 h2 h4 g k cap xs hown ad m c news hn hc h1c b1
  unfold Oper.wp
  simp [execOp, hop, resolve, invoke, builtin, hs, hx, hrun, Result.andThen]
  exact hK w' r1 r2
/-- What holds all through the round's last region. -/
def BS (W : World) (B b7 b8 : Nat) (q : Pos) (mt : TD) (w' : World) : Prop := W.grownBy w' (some B) ∧ w'.heap[b7]? = some (.cells q.cs 48 (0, 0)) ∧ w'.heap[b8]? = some (.cells mt.cs 37 (0, 0))
def BT (W : World) (B b7 b8 : Nat) (q : Pos) (mt : TD) (w' : World) : Prop := BS W B b7 b8 q mt w' ∧ w'.cell? ⟨b7, 0, none⟩ = some (.int .i64 q.n) ∧ w'.cell? ⟨b7, 1, none⟩ = some (.bool q.px) ∧ w'.cell? ⟨b7, 2, none⟩ = some (.bool q.mid) ∧ w'.cell? ⟨b7, 3, none⟩ = some (.bool q.fn) ∧ w'.cell? ⟨b7, 4, none⟩ = some (.int .i64 q.v) ∧ w'.cell? ⟨b8, 0, none⟩ = some (.pointer mt.p) ∧ w'.cell? ⟨b8, 1, none⟩ = some (.string mt.s) ∧ w'.cell? ⟨b8, 2, none⟩ = some (.int .i32 0) ∧ w'.cell? ⟨b8, 3, none⟩ = some (.int .u32 0) ∧ w'.cell? ⟨b8, 4, none⟩ = some (.int .u16 mt.o) ∧ w'.cell? ⟨b8, 5, none⟩ = some (.int .u8 mt.k) ∧ w'.cell? ⟨b8, 6, none⟩ = some (.int .u8 0)
theorem BS.full {W : World} {B b7 b8 : Nat} {q : Pos} {mt : TD} {w' : World} (h : BS W B b7 b8 q mt w') : BT W B b7 b8 q mt w' := by
  have a := fun j => cell_of_row _ _ j _ _ _ h.2.1
  have b := fun j => cell_of_row _ _ j _ _ _ h.2.2
  exact ⟨h, a 0, a 1, a 2, a 3, a 4, b 0, b 1, b 2, b 3, b 4, b 5, b 6⟩
theorem BS.step {W : World} {B b7 b8 : Nat} {q : Pos} {mt : TD} {w1 w2 : World} (h : BS W B b7 b8 q mt w1) (hg : w1.grownBy w2 (some B)) (h7 : b7 ≠ B) (h8 : b8 ≠ B) : BS W B b7 b8 q mt w2 :=
  ⟨h.1.trans hg, (hg.block b7 (Array.getElem?_eq_some_iff.1 h.2.1).1 (fun e => h7 (Option.some.inj e))).trans h.2.1, (hg.block b8 (Array.getElem?_eq_some_iff.1 h.2.2).1 (fun e => h8 (Option.some.inj e))).trans h.2.2⟩
theorem grown_of_below {w1 w2 : World} {r : Option Nat} (hb : Below w1.heap.size w1 w2) : w1.grownBy w2 r := ⟨hb.os, hb.tape, hb.output, hb.size, fun k hk _ => hb.block k hk⟩
theorem st_all' (a : Option Addr) (l c : Nat) (m : Bool) : (stA (.slice a l c) redT (midT m)).all (·.oneCell') = true := by kernel_rfl
theorem posAt_form' {w : World} {v : Value} {ts : List TD} (h : PosAt w v ts) : ∃ a l c, v = .slice a l c := by
  rcases h with ⟨_, rfl⟩ | ⟨b, c, rfl, _⟩
  · exact ⟨_, _, _, rfl⟩
  · exact ⟨_, _, _, rfl⟩
theorem PosAt.grown' {w wx : World} {B : Nat} {v : Value} {ts : List TD} (h : PosAt w v ts) (hg : w.grownBy wx (some B)) (hB : ∀ b o l c, v = .slice (some ⟨b, o, none⟩) l c → b ≠ B) : PosAt wx v ts := by
  rcases h with h | ⟨b, c, rfl, h2, h3, h4, h5, h6⟩
  · exact Or.inl h
  · have hne := hB b 0 _ c rfl
    exact Or.inr ⟨b, c, rfl, h2, h3, h4, Nat.lt_of_lt_of_le h5 hg.size, fun j u hu => hg.cell (h6 j u hu) (fun e => hne (Option.some.inj e))⟩
theorem BS.drew {W : World} {B b7 b8 : Nat} {q : Pos} {mt : TD} {w1 : World} (h : BS W B b7 b8 q mt w1) : BS W B b7 b8 q mt w1.drew := ⟨⟨h.1.os, h.1.tape, h.1.output, h.1.size, h.1.block⟩, h.2⟩
theorem bs_call {W : World} {B b7 b8 : Nat} {q : Pos} {mt : TD} {w1 w2 : World} {R : Prop} (hb : Below w1.heap.size w1 w2) (h : BS W B b7 b8 q mt w1 ∧ R) (h7 : b7 ≠ B) (h8 : b8 ≠ B) : BT W B b7 b8 q mt w2 := (h.1.step (grown_of_below hb) h7 h8).full
theorem bs_grow {W : World} {B b7 b8 : Nat} {q : Pos} {mt : TD} {w1 w2 : World} {R : Prop} (hg : w1.grownBy w2 (some B)) (h : BS W B b7 b8 q mt w1 ∧ R) (h7 : b7 ≠ B) (h8 : b8 ≠ B) : BT W B b7 b8 q mt w2 := (h.1.step hg h7 h8).full
theorem bs_alloc {W : World} {B b7 b8 : Nat} {q : Pos} {mt : TD} {w1 : World} {R : Prop} (ob : Obj) (h : BS W B b7 b8 q mt w1 ∧ R) (h7 : b7 ≠ B) (h8 : b8 ≠ B) : BT W B b7 b8 q mt (w1.alloc ob) := (h.1.step (grown_of_below ((Below.refl _ _).alloc (Nat.le_refl _) _)) h7 h8).full
theorem sd_ones (a : Option Addr) (l c : Nat) (ts : List TD) (m : Bool) : ∀ u ∈ (SD.cs ⟨.slice a l c, ts, m⟩).toList, u.oneCell' = true := List.all_eq_true.1 (by have := st_all' a l c m; rw [← Array.all_toList] at this; exact this)
theorem owns_lt' {w : World} {base : Nat} {e : TypeId} {size g n cap : Nat} {xs : List Value} (h : w.ownsRow base e size (.slice (some ⟨g, 0, none⟩) n cap) n xs) : g < w.heap.size := by
  rcases h.2 with ⟨h', _⟩ | ⟨g', cap', cur, h', _, hg, _⟩
  · cases h'
  · simp only [Value.slice.injEq, Option.some.injEq, Addr.mk.injEq, and_true, true_and] at h'
    obtain ⟨rfl, rfl⟩ := h'
    exact (Array.getElem?_eq_some_iff.1 hg).1
theorem stCells_snoc' (ss : List SD) (t : SD) : stCells (ss ++ [t]) = stCells ss ++ t.cs.toList := stCells_snoc ss t
/-- The stops made so far. -/
def Made (S V : Nat → Int) (m k B : Nat) (ss : List SD) (wr : World) : Prop := ss.length = k ∧ ∀ j (h : j < ss.length), PosAt wr ss[j].v ss[j].ts ∧ (∀ b o l c, ss[j].v = .slice (some ⟨b, o, none⟩) l c → b ≠ B) ∧ ss[j].ts.length = (posOf S V m j).n ∧ ∀ i (h' : i < ss[j].ts.length), IsTok (posOf S V m j) i ss[j].ts[i]
theorem Made.grown {S V : Nat → Int} {m k B : Nat} {ss : List SD} {wr wx : World} (h : Made S V m k B ss wr) (hg : wr.grownBy wx (some B)) : Made S V m k B ss wx :=
  ⟨h.1, fun j hj => ⟨(h.2 j hj).1.grown' hg (h.2 j hj).2.1, (h.2 j hj).2⟩⟩
theorem Made.snoc {S V : Nat → Int} {m k B : Nat} {ss : List SD} {wr : World} (h : Made S V m k B ss wr) (s : SD) (h1 : PosAt wr s.v s.ts) (h2 : ∀ b o l c, s.v = .slice (some ⟨b, o, none⟩) l c → b ≠ B) (h3 : s.ts.length = (posOf S V m k).n) (h4 : ∀ i (h' : i < s.ts.length), IsTok (posOf S V m k) i s.ts[i]) : Made S V m (k + 1) B (ss ++ [s]) wr := by
  obtain ⟨hl, ha⟩ := h
  refine ⟨by rw [List.length_append, hl]; rfl, fun j hj => ?_⟩
  by_cases hlt : j < ss.length
  · rw [List.getElem_append_left hlt]; exact ha j hlt
  · have : j = k := by simp at hj; omega
    subst this
    rw [List.getElem_append_right (by omega)]
    simp only [hl, Nat.sub_self, List.getElem_cons_zero]
    exact ⟨h1, h2, h3, h4⟩
set_option maxRecDepth 100000 in
set_option maxHeartbeats 4000000 in
theorem build_any (S V : Nat → Int) (sa va : Option Addr) (n sc m vc : Nat) (w : World) (hs : RowAt w sa n (intAt .u8 S)) (hv : RowAt w va m (intAt .i8 V)) (hS : ∀ i, i < n → 0 ≤ S i ∧ S i ≤ 255) (hV : ∀ i, i < m → -128 ≤ V i ∧ V i ≤ 127) (hn : n ≤ 256) (hm : m ≤ 65536) :
    Calls Tryz.prog 6 #[.slice sa n sc, .slice va m vc] w (fun e w' => ∃ ss, e = .returned (.slice (some ⟨w.heap.size, 0, none⟩) n n) ∧ Made S V m n w.heap.size ss w' ∧ (∀ j (h : j < ss.length), ss[j].m = (posOf S V m j).mid) ∧ w'.ownsRow w.heap.size 39 15 (.slice (some ⟨w.heap.size, 0, none⟩) n n) n (stCells ss) ∧ Below w.heap.size w w') := by
  obtain ⟨i0, hi, hz0, hz1, hz2⟩ := info_parts stop_info
  have HR := Lib.hid (And.intro hs hv)
  have HSV := Lib.hid (And.intro hS hV)
  clear hs hv hS hV
  go_enter Tryz.func6, Tryz.ntmps6
  go_wp2_with (at_make; refine wpList_make_own _ rfl _ _ 25 rfl w.heap.size 39 i0 _ 15 Tryz.underlying25 hi hz0 hz1 .i64 .i64 _ n rfl rfl (by rfl) (by rw [hz2]; omega) (by unfold maxLen; omega) (Nat.le_refl _) ?_; intro w1 hown1 hg1)
  have hb1 : Below w.heap.size w w1 := (Below.refl _ _).grown hg1 (Nat.le_refl _) (fun k h => by cases h)
  have HO := Lib.hid (And.intro hown1 hb1)
  clear hown1 hg1 hb1
  go_wp2_with fail
  go_loopw [5, 6] (fun vo iv wr => ∃ (k : Nat) (ss : List SD), k ≤ n ∧ iv = .int .i64 k ∧ vo = .slice (some ⟨w.heap.size, 0, none⟩) k n ∧ Made S V m k w.heap.size ss wr ∧ (∀ j (h : j < ss.length), ss[j].m = (posOf S V m j).mid) ∧ wr.ownsRow w.heap.size 39 15 (.slice (some ⟨w.heap.size, 0, none⟩) k n) k (stCells ss) ∧ Below w.heap.size w wr) (fun _ iv _ => n - (intOf iv).toNat)
  case atStart => exact ⟨0, [], Nat.zero_le _, rfl, rfl, ⟨rfl, fun j h => absurd h (Nat.not_lt_zero _)⟩, fun j h => absurd h (Nat.not_lt_zero _), HO.out.1, HO.out.2⟩
  case round =>
    obtain ⟨k, ss, hk, rfl, rfl, hmade, hmid, hown, hb⟩ := hrel
    by_cases hlt : k < n
    · have HM := Lib.hid (And.intro hmade (And.intro hmid (And.intro hown hb)))
      have hpi := posInfo_any S V sa va n sc m vc k wr (HR.out.1.below hb) (HR.out.2.below hb) HSV.out.1 HSV.out.2 hlt hn hm
      have hq1 : (posOf S V m k).n ≤ 2 := by
        have := HSV.out.1 k hlt
        unfold posOf
        dsimp only
        omega
      have hq2 : -1000 ≤ (posOf S V m k).v ∧ (posOf S V m k).v ≤ 1000 := by
        unfold posOf
        dsimp only
        by_cases hkm : k < m
        · have := HSV.out.2 k hkm
          rw [if_pos hkm]
          omega
        · rw [if_neg hkm]
          omega
      generalize hq : posOf S V m k = q at *
      have HPI := Lib.hid (And.intro hpi (And.intro hq1 (And.intro hq2 hq)))
      clear hpi hq1 hq2 hq hmade hmid hown hb
      obtain ⟨qn, qpx, qmid, qfn, qv⟩ := q
      go_wp2_with fail
      refine HPI.out.1.mono ?_
      rintro e w2 ⟨rfl, hb2⟩
      dsimp only [Pos.cs]
      cases qmid with
      | false =>
        go_upto_region 9 with fail
        have e7 := heap_alloc_new w2 (.cells (Pos.cs ⟨qn, qpx, false, qfn, qv⟩) 48)
        have e8 := heap_alloc_new (w2.alloc (.cells (Pos.cs ⟨qn, qpx, false, qfn, qv⟩) 48)) (.cells (TD.cs zTD) 37)
        rw [show (w2.alloc (.cells (Pos.cs ⟨qn, qpx, false, qfn, qv⟩) 48)).heap.size = w2.heap.size + 1 by simp] at e8
        have e7' := (heap_alloc_old (w2.alloc (.cells (Pos.cs ⟨qn, qpx, false, qfn, qv⟩) 48)) (.cells (TD.cs zTD) 37) (show w2.heap.size < _ by simp)).trans e7
        have hW := ((Below.refl w2.heap.size w2).alloc (Nat.le_refl _) (.cells (Pos.cs ⟨qn, qpx, false, qfn, qv⟩) 48)).alloc (by simp) (.cells (TD.cs zTD) 37)
        change Code.wp _ _ _ _ ((w2.alloc (.cells (Pos.cs ⟨qn, qpx, false, qfn, qv⟩) 48)).alloc (.cells (TD.cs zTD) 37))
        generalize (w2.alloc (.cells (Pos.cs ⟨qn, qpx, false, qfn, qv⟩) 48)).alloc (.cells (TD.cs zTD) 37) = W0 at *
        have E0 := Lib.hid (show BS W0 w.heap.size w2.heap.size (w2.heap.size + 1) ⟨qn, qpx, false, qfn, qv⟩ zTD W0 from ⟨⟨rfl, rfl, rfl, Nat.le_refl _, fun _ _ _ => rfl⟩, e7', e8⟩)
        have HW0 := Lib.hid (hb2.trans (hW.mono hb2.size))
        have h7 : w2.heap.size ≠ w.heap.size := by have h1 := hb2.size; have h2 := owns_lt' HM.out.2.2.1; omega
        have h8 : w2.heap.size + 1 ≠ w.heap.size := by have h1 := hb2.size; have h2 := owns_lt' HM.out.2.2.1; omega
        clear e7 e8 e7' hW hb2
        go_region_held3 (fun w' => BS W0 w.heap.size w2.heap.size (w2.heap.size + 1) ⟨qn, qpx, false, qfn, qv⟩ zTD w' ∧ w'.cell? ⟨w2.heap.size, 0, none⟩ = some (.int .i64 qn) ∧ w'.cell? ⟨w2.heap.size, 1, none⟩ = some (.bool qpx) ∧ w'.cell? ⟨w2.heap.size, 2, none⟩ = some (.bool false) ∧ w'.cell? ⟨w2.heap.size, 3, none⟩ = some (.bool qfn) ∧ w'.cell? ⟨w2.heap.size, 4, none⟩ = some (.int .i64 qv) ∧ w'.cell? ⟨w2.heap.size + 1, 0, none⟩ = some (.pointer none) ∧ w'.cell? ⟨w2.heap.size + 1, 1, none⟩ = some (.string { data := #[] }) ∧ w'.cell? ⟨w2.heap.size + 1, 2, none⟩ = some (.int .i32 0) ∧ w'.cell? ⟨w2.heap.size + 1, 3, none⟩ = some (.int .u32 0) ∧ w'.cell? ⟨w2.heap.size + 1, 4, none⟩ = some (.int .u16 0) ∧ w'.cell? ⟨w2.heap.size + 1, 5, none⟩ = some (.int .u8 0) ∧ w'.cell? ⟨w2.heap.size + 1, 6, none⟩ = some (.int .u8 0)) (first | exact E0.out.drew.full | exact bs_call hb5 (by assumption) h7 h8 | exact bs_call hb6 (by assumption) h7 h8 | exact bs_call hb7 (by assumption) h7 h8 | exact bs_alloc _ (by assumption) h7 h8 | exact bs_grow hg9 (by assumption) h7 h8 | assumption) (first | (go_at_call 15; refine (tok_any 29 _ _).mono ?_; rintro e w5 ⟨rfl, hb5⟩; have hx5 := HW0.out.drew.trans (hb5.mono HW0.out.drew.size)) | (go_at_call 16; refine (posToks_any ⟨qn, qpx, false, qfn, qv⟩ _ HPI.out.2.1 HPI.out.2.2.1.1 HPI.out.2.2.1.2).mono ?_; rintro e w6 ⟨v6, ts, rfl, hp6, hl6, ht6, hb6, hf6⟩; obtain ⟨a6, l6, c6, rfl⟩ := posAt_form' hp6; have hx6 := hx5.trans (hb6.mono hx5.size)) | (go_at_call 7; refine (newStop_any _ _ _ redT zTD _).mono ?_; rintro e w7 ⟨rfl, hb7⟩; have hx7 := hx6.trans (hb7.mono hx6.size)) | (refine step_append_fits rfl (.tmp 25) (.tmp 31) 25 rfl w.heap.size 39 i0 15 Tryz.underlying25 hi hz1 w.heap.size k n (stCells ss) rfl ((own_below' HM.out.2.2.1 hx7).alloc _) ⟨w7.heap.size, 0, none⟩ 1 1 (SD.cs ⟨.slice a6 l6 c6, ts, false⟩).toList rfl rfl (new_row _ _ rfl _ _ _) (sd_ones _ _ _ _ _) (by omega) ?_; intro w9 hown9 hg9))
        have hal := hx7.alloc hx7.size (.cells (stA (.slice a6 l6 c6) redT (midT false)) 39)
        have hlB := owns_lt' HM.out.2.2.1
        have hgr : wr.grownBy w9 (some w.heap.size) := (grown_of_below hal).trans hg9
        have hbw : Below w.heap.size w w9 := (HM.out.2.2.2.trans (hal.mono HM.out.2.2.2.size)).grown hg9 (by have := hal.size; have := HM.out.2.2.2.size; omega) (fun j h => by cases h; exact Nat.le_refl _)
        have hfr : ∀ b o l c, (Value.slice a6 l6 c6) = .slice (some ⟨b, o, none⟩) l c → b ≠ w.heap.size := fun b o l c hv => by
          have h1 := hf6 b o l c hv
          have h2 := hx5.size
          omega
        have hp9 : PosAt w9 (.slice a6 l6 c6) ts := ((hp6.below hb7).below ((Below.refl _ _).alloc (Nat.le_refl _) (.cells (stA (.slice a6 l6 c6) redT (midT false)) 39))).grown' hg9 hfr
        have hmd := (HM.out.1.grown hgr).snoc ⟨.slice a6 l6 c6, ts, false⟩ hp9 hfr (by rw [HPI.out.2.2.2]; exact hl6) (fun i h' => by rw [HPI.out.2.2.2]; exact ht6 i h')
        have hmids : ∀ j (h : j < (ss ++ [(⟨.slice a6 l6 c6, ts, false⟩ : SD)]).length), (ss ++ [(⟨.slice a6 l6 c6, ts, false⟩ : SD)])[j].m = (posOf S V m j).mid := fun j hj => by
          by_cases hlt : j < ss.length
          · rw [List.getElem_append_left hlt]; exact HM.out.2.1 j hlt
          · have hjk : j = k := by have := HM.out.1.1; simp at hj; omega
            rw [List.getElem_append_right (by omega)]
            have h0 : j - ss.length = 0 := by have := HM.out.1.1; omega
            simp only [h0, List.getElem_cons_zero]
            rw [hjk, HPI.out.2.2.2]
        rw [← stCells_snoc'] at hown9
        have HF := Lib.hid (And.intro hmd (And.intro hmids (And.intro hown9 hbw)))
        clear hal hgr hbw hfr hp9 hmd hmids hown9 hb5 hb6 hb7 hp6 hf6 ht6
        go_wp2_with fail
        go_roundw
        case rel => exact ⟨k + 1, _, by omega, by go_num, rfl, HF.out.1, HF.out.2.1, HF.out.2.2.1, HF.out.2.2.2⟩
        case measure => simp [intOf]; omega
      | true =>
        go_wp2_with fail
        refine (tok_any 34 _ _).mono ?_
        rintro e w3 ⟨rfl, hb3⟩
        have e7 := heap_alloc_new w2 (.cells (Pos.cs ⟨qn, qpx, true, qfn, qv⟩) 48)
        have e8 := heap_alloc_new (w2.alloc (.cells (Pos.cs ⟨qn, qpx, true, qfn, qv⟩) 48)) (.cells (TD.cs zTD) 37)
        rw [show (w2.alloc (.cells (Pos.cs ⟨qn, qpx, true, qfn, qv⟩) 48)).heap.size = w2.heap.size + 1 by simp] at e8
        have e7' := (heap_alloc_old (w2.alloc (.cells (Pos.cs ⟨qn, qpx, true, qfn, qv⟩) 48)) (.cells (TD.cs zTD) 37) (show w2.heap.size < _ by simp)).trans e7
        have hW := ((Below.refl w2.heap.size w2).alloc (Nat.le_refl _) (.cells (Pos.cs ⟨qn, qpx, true, qfn, qv⟩) 48)).alloc (by simp) (.cells (TD.cs zTD) 37)
        have e73 := (hb3.block _ (Array.getElem?_eq_some_iff.1 e7').1).trans e7'
        have e83 := (hb3.block _ (Array.getElem?_eq_some_iff.1 e8).1).trans e8
        have hW3 := hW.trans (hb3.mono hW.size)
        have HE83 := Lib.hid e83
        clear hb3
        go_upto_region 9 with (refine wpList_store_rowTo rfl 37 (.tmp 8) (.tmp 24) rfl rfl (w2.heap.size + 1) (TD.cs (midT true)) rfl rfl 37 _ HE83.out (by kernel_rfl) rfl (by kernel_rfl) ?_)
        have e74 : (w3.setRow (w2.heap.size + 1) (TD.cs (midT true))).heap[w2.heap.size]? = some (.cells (Pos.cs ⟨qn, qpx, true, qfn, qv⟩) 48 (0, 0)) := (setRow_other w3 (w2.heap.size + 1) w2.heap.size _ (by omega)).trans e73
        have e84 : (w3.setRow (w2.heap.size + 1) (TD.cs (midT true))).heap[w2.heap.size + 1]? = some (.cells (TD.cs (midT true)) 37 (0, 0)) := setRow_heap _ _ _ _ _ _ HE83.out
        have hW4 : Below w2.heap.size w2 (w3.setRow (w2.heap.size + 1) (TD.cs (midT true))) := below_setRow hW3 (by omega) _
        generalize hW0 : w3.setRow (w2.heap.size + 1) (TD.cs (midT true)) = W0 at *
        clear hW0
        have E0 := Lib.hid (show BS W0 w.heap.size w2.heap.size (w2.heap.size + 1) ⟨qn, qpx, true, qfn, qv⟩ (⟨none, { data := #[53, 48, 37] }, 0, 34⟩ : TD) W0 from ⟨⟨rfl, rfl, rfl, Nat.le_refl _, fun _ _ _ => rfl⟩, e74, e84⟩)
        have HW0 := Lib.hid (hb2.trans (hW4.mono hb2.size))
        have h7 : w2.heap.size ≠ w.heap.size := by have h1 := hb2.size; have h2 := owns_lt' HM.out.2.2.1; omega
        have h8 : w2.heap.size + 1 ≠ w.heap.size := by have h1 := hb2.size; have h2 := owns_lt' HM.out.2.2.1; omega
        clear e7 e8 e7' hW hb2 e73 e83 HE83 hW3 e74 e84 hW4
        go_region_held3 (fun w' => BS W0 w.heap.size w2.heap.size (w2.heap.size + 1) ⟨qn, qpx, true, qfn, qv⟩ (⟨none, { data := #[53, 48, 37] }, 0, 34⟩ : TD) w' ∧ w'.cell? ⟨w2.heap.size, 0, none⟩ = some (.int .i64 qn) ∧ w'.cell? ⟨w2.heap.size, 1, none⟩ = some (.bool qpx) ∧ w'.cell? ⟨w2.heap.size, 2, none⟩ = some (.bool true) ∧ w'.cell? ⟨w2.heap.size, 3, none⟩ = some (.bool qfn) ∧ w'.cell? ⟨w2.heap.size, 4, none⟩ = some (.int .i64 qv) ∧ w'.cell? ⟨w2.heap.size + 1, 0, none⟩ = some (.pointer none) ∧ w'.cell? ⟨w2.heap.size + 1, 1, none⟩ = some (.string { data := #[53, 48, 37] }) ∧ w'.cell? ⟨w2.heap.size + 1, 2, none⟩ = some (.int .i32 0) ∧ w'.cell? ⟨w2.heap.size + 1, 3, none⟩ = some (.int .u32 0) ∧ w'.cell? ⟨w2.heap.size + 1, 4, none⟩ = some (.int .u16 0) ∧ w'.cell? ⟨w2.heap.size + 1, 5, none⟩ = some (.int .u8 34) ∧ w'.cell? ⟨w2.heap.size + 1, 6, none⟩ = some (.int .u8 0)) (first | exact E0.out.drew.full | exact bs_call hb5 (by assumption) h7 h8 | exact bs_call hb6 (by assumption) h7 h8 | exact bs_call hb7 (by assumption) h7 h8 | exact bs_alloc _ (by assumption) h7 h8 | exact bs_grow hg9 (by assumption) h7 h8 | assumption) (first | (go_at_call 15; refine (tok_any 29 _ _).mono ?_; rintro e w5 ⟨rfl, hb5⟩; have hx5 := HW0.out.drew.trans (hb5.mono HW0.out.drew.size)) | (go_at_call 16; refine (posToks_any ⟨qn, qpx, true, qfn, qv⟩ _ HPI.out.2.1 HPI.out.2.2.1.1 HPI.out.2.2.1.2).mono ?_; rintro e w6 ⟨v6, ts, rfl, hp6, hl6, ht6, hb6, hf6⟩; obtain ⟨a6, l6, c6, rfl⟩ := posAt_form' hp6; have hx6 := hx5.trans (hb6.mono hx5.size)) | (go_at_call 7; refine (newStop_any _ _ _ redT (⟨none, { data := #[53, 48, 37] }, 0, 34⟩ : TD) _).mono ?_; rintro e w7 ⟨rfl, hb7⟩; have hx7 := hx6.trans (hb7.mono hx6.size)) | (refine step_append_fits rfl (.tmp 25) (.tmp 31) 25 rfl w.heap.size 39 i0 15 Tryz.underlying25 hi hz1 w.heap.size k n (stCells ss) rfl ((own_below' HM.out.2.2.1 hx7).alloc _) ⟨w7.heap.size, 0, none⟩ 1 1 (SD.cs ⟨.slice a6 l6 c6, ts, true⟩).toList rfl rfl (new_row _ _ rfl _ _ _) (sd_ones _ _ _ _ _) (by omega) ?_; intro w9 hown9 hg9))
        have hal := hx7.alloc hx7.size (.cells (stA (.slice a6 l6 c6) redT (midT true)) 39)
        have hlB := owns_lt' HM.out.2.2.1
        have hgr : wr.grownBy w9 (some w.heap.size) := (grown_of_below hal).trans hg9
        have hbw : Below w.heap.size w w9 := (HM.out.2.2.2.trans (hal.mono HM.out.2.2.2.size)).grown hg9 (by have := hal.size; have := HM.out.2.2.2.size; omega) (fun j h => by cases h; exact Nat.le_refl _)
        have hfr : ∀ b o l c, (Value.slice a6 l6 c6) = .slice (some ⟨b, o, none⟩) l c → b ≠ w.heap.size := fun b o l c hv => by
          have h1 := hf6 b o l c hv
          have h2 := hx5.size
          omega
        have hp9 : PosAt w9 (.slice a6 l6 c6) ts := ((hp6.below hb7).below ((Below.refl _ _).alloc (Nat.le_refl _) (.cells (stA (.slice a6 l6 c6) redT (midT true)) 39))).grown' hg9 hfr
        have hmd := (HM.out.1.grown hgr).snoc ⟨.slice a6 l6 c6, ts, true⟩ hp9 hfr (by rw [HPI.out.2.2.2]; exact hl6) (fun i h' => by rw [HPI.out.2.2.2]; exact ht6 i h')
        have hmids : ∀ j (h : j < (ss ++ [(⟨.slice a6 l6 c6, ts, true⟩ : SD)]).length), (ss ++ [(⟨.slice a6 l6 c6, ts, true⟩ : SD)])[j].m = (posOf S V m j).mid := fun j hj => by
          by_cases hlt : j < ss.length
          · rw [List.getElem_append_left hlt]; exact HM.out.2.1 j hlt
          · have hjk : j = k := by have := HM.out.1.1; simp at hj; omega
            rw [List.getElem_append_right (by omega)]
            have h0 : j - ss.length = 0 := by have := HM.out.1.1; omega
            simp only [h0, List.getElem_cons_zero]
            rw [hjk, HPI.out.2.2.2]
        rw [← stCells_snoc'] at hown9
        have HF := Lib.hid (And.intro hmd (And.intro hmids (And.intro hown9 hbw)))
        clear hal hgr hbw hfr hp9 hmd hmids hown9 hb5 hb6 hb7 hp6 hf6 ht6
        go_wp2_with fail
        go_roundw
        case rel => exact ⟨k + 1, _, by omega, by go_num, rfl, HF.out.1, HF.out.2.1, HF.out.2.2.1, HF.out.2.2.2⟩
        case measure => simp [intOf]; omega
    · have hnk : n = k := by omega
      subst hnk
      have HM := Lib.hid (And.intro hmade (And.intro hmid (And.intro hown hb)))
      clear hmade hmid hown hb
      go_wp2_with fail
      go_ret
      exact ⟨ss, by first | rfl | exact HM.out.1, HM.out.1, HM.out.2.1, HM.out.2.2.1, HM.out.2.2.2⟩
end Go.Proofs.YtnmjfjfpedbalaaGreatDoor
