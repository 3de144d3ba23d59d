/- The clone of a row of byte rows. -/
import Derived.Test.YtdoakedpkjlipaaFmtK1
import Derived.Test.YtdoakedpkjlipaaFmtJ13
import Derived.Test.YtdoakedpkjlipaaFmtZ1
namespace Go.Proofs.YtdoakedpkjlipaaFmt
open Go.RowKit
set_option linter.unusedVariables false
theorem slcM_info : (Tryf.prog.info? 25).map (fun i => (i.zero, i.size, i.bytes)) = some (some (.slice none 0 0), 1, 24) := by kernel_rfl
def Cloned2 (n : Nat) (N : Nat → Nat) (D : Nat → Nat → UInt8) (w : World) (e : Ending) (w' : World) : Prop :=
  ∃ a c A C, e = .returned (.slice a n c) ∧ RowAt w' a n (slcAt A N C) ∧ (∀ i, i < n → N i ≤ C i ∧ C i ≤ maxLen ∧ RowAt w' (A i) (N i) (byteAt (D i)) ∧ (A i = none → C i = 0)) ∧ Below w.heap.size w w'
/-- The first k rows are cloned, the rest is nil. -/
def ClRow (g n k : Nat) (N : Nat → Nat) (D : Nat → Nat → UInt8) (w : World) (xs : List Value) : Prop :=
  (∀ j, j < n → k ≤ j → xs[j]? = some (.slice none 0 0)) ∧ ∀ j, j < k → ∃ a c, xs[j]? = some (.slice a (N j) c) ∧ N j ≤ c ∧ c ≤ maxLen ∧ RowAt w a (N j) (byteAt (D j)) ∧ (∀ x, a = some x → x.block ≠ g) ∧ (a = none → c = 0)
theorem ClRow.below {g n k : Nat} {N : Nat → Nat} {D : Nat → Nat → UInt8} {w w' : World} {xs : List Value} (h : ClRow g n k N D w xs) (hb : Below w.heap.size w w') : ClRow g n k N D w' xs :=
  ⟨h.1, fun j hj => by obtain ⟨a, c, h1, h2, h3, h4, h5, h6⟩ := h.2 j hj; exact ⟨a, c, h1, h2, h3, h4.below hb, h5, h6⟩⟩
theorem rowAt_set {w : World} {a : Option Addr} {n g j : Nat} {f : Nat → Value} {u : Value} (h : RowAt w a n f) (hne : ∀ x, a = some x → x.block ≠ g) : RowAt (w.setCell ⟨g, j, none⟩ u) a n f := fun h0 => by
  obtain ⟨b, o, h1, h2⟩ := h h0
  refine ⟨b, o, h1, fun i hi => ?_⟩
  have hbg := hne _ h1
  rw [World.cell?_setCell_other]
  · exact h2 i hi
  · exact fun e => hbg (congrArg Addr.block e).symm
theorem ClRow.step {g n k : Nat} {N : Nat → Nat} {D : Nat → Nat → UInt8} {w : World} {xs : List Value} (h : ClRow g n k N D w xs) (hl : xs.length = n) (hk : k < n) (a : Option Addr) (c : Nat) (h1 : N k ≤ c) (h2 : c ≤ maxLen) (h3 : RowAt w a (N k) (byteAt (D k))) (h4 : ∀ x, a = some x → x.block ≠ g) (h5 : a = none → c = 0) :
    ClRow g n (k + 1) N D (w.setCell ⟨g, k, none⟩ (.slice a (N k) c)) (xs.set k (.slice a (N k) c)) := by
  refine ⟨fun j hj hkj => ?_, fun j hj => ?_⟩
  · rw [List.getElem?_set_ne (by omega)]
    exact h.1 j hj (by omega)
  · rcases Nat.lt_or_eq_of_le (Nat.lt_succ_iff.1 hj) with hlt | rfl
    · obtain ⟨a', c', e1, e2, e3, e4, e5, e6⟩ := h.2 j hlt
      exact ⟨a', c', by rw [List.getElem?_set_ne (by omega)]; exact e1, e2, e3, rowAt_set e4 e5, e5, e6⟩
    · exact ⟨a, c, by rw [List.getElem?_set_self (by omega)], h1, h2, rowAt_set h3 h4, h4, h5⟩
/-- A nil row needs no clone. -/
theorem ClRow.skip {g n k : Nat} {N : Nat → Nat} {D : Nat → Nat → UInt8} {w : World} {xs : List Value} (h : ClRow g n k N D w xs) (hk : k < n) (h0 : N k = 0) : ClRow g n (k + 1) N D w xs := by
  refine ⟨fun j hj hkj => h.1 j hj (by omega), fun j hj => ?_⟩
  rcases Nat.lt_or_eq_of_le (Nat.lt_succ_iff.1 hj) with hlt | rfl
  · exact h.2 j hlt
  · exact ⟨none, 0, by rw [h0]; exact h.1 j hk (Nat.le_refl _), by omega, by decide, by rw [h0]; exact RowAt.zero _ _ _, ⟨fun x hx => (by cases hx), fun _ => rfl⟩⟩
theorem own_fresh (w : World) (base : Nat) (e : TypeId) (size n : Nat) (cs : Array Value) (hb : base ≤ w.heap.size) (hm : n ≤ maxLen) (hs : cs.size = n * size) :
    (w.alloc (.cells cs e)).drew.ownsRow base e size (.slice (some ⟨w.heap.size, 0, none⟩) 0 n) 0 [] :=
  ⟨by simp, .inr ⟨w.heap.size, n, cs, rfl, hb, heap_alloc_new w _, Nat.zero_le _, hm, hs, by simp⟩⟩
theorem far_facts {wr w' : World} {O : Obj} {p : Addr} {v : Value} (hg : ((wr.alloc O).drew).grownBy w' (some wr.heap.size)) (hc : wr.cell? p = some v) (hf : wr.frozen? p = false) : w'.cell? p = some v ∧ w'.frozen? p = false := by
  have hl := block_lt_of_cell hc
  have e1 : w'.heap[p.block]? = wr.heap[p.block]? := (hg.block p.block (by show _ < (wr.heap.push _).size; simp; omega) (fun e => by have := Option.some.inj e; omega)).trans (heap_alloc_old wr O hl)
  exact ⟨(World.cell?_of_block e1).trans hc, (World.frozen?_of_block e1).trans hf⟩
theorem step_append_fits {P : Program} {ops : Array Oper} {o : Oper} {a : Act} {w : World} {K : Act → World → Prop} {Q : Exit → Act → World → Prop} {E : Prop}
    (hg : o.guard = none) (s x : Operand) (t : TypeId) (hop : o.op = Op.call { callee := Callee.builtin Builtin.append, args := #[s, x], argTypes := #[t, t] })
    (base : Nat) (e : TypeId) (i : TypeInfo) (size : Nat) (h1 : P.underlying t = some (.slice e)) (h2 : P.info? e = some i) (h4 : i.size = size)
    (g k cap : Nat) (xs : List Value) (hs : a.eval s = .slice (some ⟨g, 0, none⟩) k cap) (hown : w.ownsRow base e size (.slice (some ⟨g, 0, none⟩) k cap) k xs) (ad : Addr) (m c : Nat) (news : List Value) (hx : a.eval x = .slice (some ad) m c) (hn : news.length = m * size)
    (hc : ∀ j u, news[j]? = some u → w.cell? (ad.add j) = some u) (h1c : ∀ u ∈ news, u.oneCell' = true) (b1 : k + m ≤ cap)
    (hK : ∀ w', w'.ownsRow base e size (.slice (some ⟨g, 0, none⟩) (k + m) cap) (k + m) (xs ++ news) → w.grownBy w' (some g) → K (a.put o.dst (.slice (some ⟨g, 0, none⟩) (k + m) cap)) w') :
    if Region.wanted o (yielded ops a.tmps) = true then Oper.wp P o a w K Q else E := by
  have hw : Region.wanted o (yielded ops a.tmps) = true := by simp [Region.wanted, hg]
  rw [if_pos hw]
  obtain ⟨w', hrun, r1, r2⟩ := run_append_fits (P := P) w base t o.type e i size h1 h2 h4 g k cap xs hown ad m c news hn hc h1c b1
  unfold Oper.wp
  simp [execOp, hop, resolve, invoke, builtin, hs, hx, hrun, Result.andThen]
  exact hK w' r1 r2
set_option maxRecDepth 100000 in
set_option maxHeartbeats 400000 in
theorem clone_rows (a : Option Addr) (n c : Nat) (A : Nat → Option Addr) (N C : Nat → Nat) (D : Nat → Nat → UInt8) (w : World) (hn : n ≤ 1048576) (hr : RowAt w a n (slcAt A N C))
    (hN : ∀ i, i < n → N i ≤ 1048576) (hD : ∀ i, i < n → RowAt w (A i) (N i) (byteAt (D i))) :
    Calls Tryf.prog 8 #[.slice a n c] w (Cloned2 n N D w) := by
  obtain ⟨i0, hi, hz0, hz1, hz2⟩ := info_parts slcM_info
  obtain ⟨j0, hj, hy0, hy1, hy2⟩ := info_parts u8_info
  have hq := fun (wx : World) => Lib.run_eql_slice_nil (P := Tryf.prog) wx 23 25 a n c 0 0 Tryf.underlying23
  have Hr := Lib.hid hr
  have HD := Lib.hid hD
  have HN := Lib.hid hN
  clear hr hD hN
  cases a with
  | none =>
    have h0 : n = 0 := by
      rcases Nat.eq_zero_or_pos n with h | h
      · exact h
      · obtain ⟨b, o, h1, _⟩ := Hr.out h
        cases h1
    subst h0
    clear hn
    go_enter Tryf.func8, Tryf.ntmps8
    go_wp2
    go_ret
    exact ⟨_, _, A, C, rfl, RowAt.zero _ _ _, fun i hi => absurd hi (Nat.not_lt_zero i), Below.refl _ _⟩
  | some a =>
    go_enter Tryf.func8, Tryf.ntmps8
    go_wp2_with (at_make; refine wpList_make_full _ rfl _ _ 23 rfl w.heap.size 25 i0 _ 1 Tryf.underlying23 hi hz0 hz1 .i64 .i64 _ _ n rfl rfl rfl rfl (by rw [hz2]; omega) (by unfold maxLen; omega) (Nat.le_refl _) ?_; intro w1 hown hg; have HO := Lib.hid hown; have HB := Lib.hid ((Below.refl _ _).grown hg (Nat.le_refl _) (fun k h => by cases h) : Below w.heap.size w w1); clear hown hg)
    have hrow0 : ∃ xs, w1.ownsRow w.heap.size 25 1 (.slice (some ⟨w.heap.size, 0, none⟩) n n) n xs ∧ ClRow w.heap.size n 0 N D w1 xs := by
      refine ⟨_, HO.out, fun j hj _ => ?_, fun j hj => by omega⟩
      rw [madeCells_list _ _ rfl, List.getElem?_replicate, if_pos hj]
    obtain ⟨xs0, hx0, hx1⟩ := hrow0
    clear HO
    go_loopw [4] (fun i wr => ∃ (k : Nat) (xs : List Value), k ≤ n ∧ i = .int .i64 k ∧ wr.ownsRow w.heap.size 25 1 (.slice (some ⟨w.heap.size, 0, none⟩) n n) n xs ∧ ClRow w.heap.size n k N D wr xs ∧ Below w.heap.size w wr) (fun i _ => n - (intOf i).toNat)
    case atStart => exact ⟨0, xs0, Nat.zero_le _, rfl, hx0, hx1, HB.out⟩
    case round =>
      obtain ⟨k, xs, hk, rfl, hown, hxs, hb⟩ := hrel
      by_cases hlt : k < n
      · obtain ⟨b, o, ha, hbl, hcell⟩ := Hr.out.blk (by omega)
        obtain rfl := Option.some.inj ha
        have hc := (hb.cell (p := ⟨b, o + k, none⟩) hbl).trans (hcell k hlt)
        clear hcell ha
        have hlen := hown.1
        have hNk := HN.out k hlt
        have hDk := HD.out k hlt
        have HST := Lib.hid (fun aa cc wx h => ClRow.step (w := wx) (h : ClRow w.heap.size n k N D wx xs) (by omega) hlt aa cc)
        have HSK := Lib.hid (fun h => ClRow.skip hxs hlt h)
        simp only [slcAt] at hc
        generalize hx : A k = xa at *
        generalize hxn : N k = xn at *
        generalize C k = xc at *
        clear hx
        have p0 := hown.cellAt k (by omega)
        have hz := hxs.1 k hlt (Nat.le_refl _)
        rw [hz] at p0
        have f0 := hown.frozenAt k
        have HO2 := Lib.hid hown
        have HX := Lib.hid hxs
        have HB2 := Lib.hid hb
        have HDK := Lib.hid hDk
        have HXN := Lib.hid hxn
        clear hown hxs hb hz hDk hxn hlen
        have hq2 := fun (wx : World) => Lib.run_eql_slice_nil (P := Tryf.prog) wx 25 5 xa xn xc 0 0 Tryf.underlying25
        cases xa with
        | none => 
          have h0 : xn = 0 := by
            rcases Nat.eq_zero_or_pos xn with h | h
            · exact h
            · obtain ⟨b, o, h1, _⟩ := HDK.out h
              cases h1
          go_wp2_with fail
          have HKK := Lib.hid (HSK.out h0)
          exact ⟨⟨k + 1, _, by omega, by go_num, HO2.out, HKK.out, HB2.out⟩, by simp [intOf]; omega⟩
        | some xa =>
          go_wp2_with fail
          have hmk : ∀ wx : World, (Instr.makeSlice 25 (.int .i64 0) (.int .i64 xn)).run Tryf.prog wx = .ok (.slice (some ⟨wx.heap.size, 0, none⟩) 0 xn) (wx.alloc (.cells (madeCells #[.int .u8 0] xn) 5)) := by
            intro wx
            have hr := run_make (P := Tryf.prog) wx 25 5 j0 _ Tryf.underlying25 hj hy0 .i64 .i64 0 xn (by omega) (by omega) (by rw [hy2]; omega) (by omega)
            simpa [hy1, Value.cells] using hr
          have hwl := block_lt_of_cell p0
          have hc2 : (wr.alloc (.cells (madeCells #[.int .u8 0] xn) 5)).cell? ⟨b, o + k, none⟩ = some (.slice (some xa) xn xc) := (World.cell?_alloc_some _ _ _ (by rw [hc]; rfl)).trans hc
          go_region_law
            ((refine step_append_fits (by rfl) (.tmp 28) (.tmp 32) 25 (by rfl) wr.heap.size 5 j0 1 Tryf.underlying25 hj hy1 wr.heap.size 0 xn [] (by rfl) (own_fresh wr _ 5 1 xn _ (Nat.le_refl _) (by unfold maxLen; omega) (by simp [size_madeCells])) xa xn xc ((List.range xn).map (byteAt (D k))) (by rfl) (by simp) (row_news HDK.out ((HB2.out).alloc HB2.out.size _).drew) (by intro u hu; obtain ⟨i, _, rfl⟩ := List.mem_map.1 hu; rfl) (by omega) ?_; intro w' hown' hg'; obtain ⟨q0, qf0⟩ := far_facts hg' p0 f0; have HOW := Lib.hid hown'; have HGW := Lib.hid hg'; clear hown' hg'))
          all_goals (try simp only [Exit.inBlock, Exit.then])
          all_goals go_wp2_with fail
          all_goals
            have hgw : Below wr.heap.size wr w' := (((Below.refl _ _).alloc (Nat.le_refl _) _).drew).grown HGW.out (by show _ ≤ (wr.heap.push _).size; simp) (fun k h => by have := Option.some.inj h; omega)
            have ho := (own_below HO2.out hgw).stored k (.slice (some ⟨wr.heap.size, 0, none⟩) xn xn)
            have hx := HST.out (some ⟨wr.heap.size, 0, none⟩) xn w' (HX.out.below hgw) (Nat.le_refl _) (by unfold maxLen; omega) (row_made HOW.out) (fun x h => by have h5 := Option.some.inj h; subst h5; exact Nat.ne_of_gt hwl) (fun h => by cases h)
            have hb' := (HB2.out.trans (hgw.mono HB2.out.size)).setCell (p := ⟨w.heap.size, k, none⟩) (Nat.le_refl _) (.slice (some ⟨wr.heap.size, 0, none⟩) xn xn)
            have HFIN := Lib.hid (And.intro ho.1 (And.intro hx hb'))
            clear hgw ho hx hb'
            exact ⟨⟨k + 1, _, by omega, by go_num, HFIN.out.1, HFIN.out.2.1, HFIN.out.2.2⟩, by simp [intOf]; omega⟩
      · obtain rfl : k = n := by omega
        have HO2 := Lib.hid hown
        have HX := Lib.hid hxs
        have HB2 := Lib.hid hb
        clear hown hb hxs
        go_wp2_with fail
        go_ret
        obtain ⟨f, hf⟩ := Classical.skolem.1 (show ∀ j, ∃ y : Option Addr × Nat, j < k → xs[j]? = some (.slice y.1 (N j) y.2) ∧ N j ≤ y.2 ∧ y.2 ≤ maxLen ∧ RowAt wr y.1 (N j) (byteAt (D j)) ∧ (y.1 = none → y.2 = 0) from fun j => by
          by_cases h : j < k
          · obtain ⟨a', c', h1, h2, h3, h4, _, h6⟩ := HX.out.2 j h
            exact ⟨(a', c'), fun _ => ⟨h1, h2, h3, h4, h6⟩⟩
          · exact ⟨(none, 0), fun h' => absurd h' h⟩)
        refine ⟨some ⟨w.heap.size, 0, none⟩, k, fun j => (f j).1, fun j => (f j).2, rfl, fun h0 => ⟨_, _, rfl, fun i hi => ?_⟩, fun i hi => (hf i hi).2, HB2.out⟩
        rw [Nat.zero_add, HO2.out.cellAt i (by omega)]
        exact (hf i hi).1
end Go.Proofs.YtdoakedpkjlipaaFmt
