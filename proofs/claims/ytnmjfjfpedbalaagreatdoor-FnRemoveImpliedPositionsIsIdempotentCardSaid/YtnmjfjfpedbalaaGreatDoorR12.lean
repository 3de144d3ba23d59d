/- The law's walk. -/
import Derived.Test.YtnmjfjfpedbalaaGreatDoorR11
import Derived.Test.YtnmjfjfpedbalaaGreatDoorZ1
namespace Go.Proofs.YtnmjfjfpedbalaaGreatDoor
open Go.RowKit
set_option linter.unusedVariables false
theorem st_cells {w : World} {B o : Nat} {v : Value} {p1 p2 : Option Addr} {s1 s2 : ByteArray} {o1 o2 k1 k2 : Nat} (h : w.rangeAt B o (stA v ⟨p1, s1, o1, k1⟩ ⟨p2, s2, o2, k2⟩).toList) : w.cell? ⟨B, o, none⟩ = some v ∧ w.cell? ⟨B, o + 1, none⟩ = some (.pointer p1) ∧ w.cell? ⟨B, o + 2, none⟩ = some (.string s1) ∧ w.cell? ⟨B, o + 3, none⟩ = some (.int .i32 0) ∧ w.cell? ⟨B, o + 4, none⟩ = some (.int .u32 0) ∧ w.cell? ⟨B, o + 5, none⟩ = some (.int .u16 o1) ∧ w.cell? ⟨B, o + 6, none⟩ = some (.int .u8 k1) ∧ w.cell? ⟨B, o + 7, none⟩ = some (.int .u8 0) ∧ w.cell? ⟨B, o + 8, none⟩ = some (.pointer p2) ∧ w.cell? ⟨B, o + 9, none⟩ = some (.string s2) ∧ w.cell? ⟨B, o + 10, none⟩ = some (.int .i32 0) ∧ w.cell? ⟨B, o + 11, none⟩ = some (.int .u32 0) ∧ w.cell? ⟨B, o + 12, none⟩ = some (.int .u16 o2) ∧ w.cell? ⟨B, o + 13, none⟩ = some (.int .u8 k2) ∧ w.cell? ⟨B, o + 14, none⟩ = some (.int .u8 0) :=
  ⟨h 0 _ rfl, h 1 _ rfl, h 2 _ rfl, h 3 _ rfl, h 4 _ rfl, h 5 _ rfl, h 6 _ rfl, h 7 _ rfl, h 8 _ rfl, h 9 _ rfl, h 10 _ rfl, h 11 _ rfl, h 12 _ rfl, h 13 _ rfl, h 14 _ rfl⟩
/-- What holds all through the copying loop's region. -/
def CS (W : World) (BA B1 o : Nat) (v : Value) (c m : TD) (w' : World) : Prop := W.grownBy w' (some BA) ∧ w'.rangeAt B1 o (stA v c m).toList
theorem CS.step {W : World} {BA B1 o : Nat} {v : Value} {c m : TD} {w1 w2 : World} (h : CS W BA B1 o v c m w1) (hg : w1.grownBy w2 (some BA)) (hB : B1 ≠ BA) : CS W BA B1 o v c m w2 :=
  ⟨h.1.trans hg, fun j u hu => hg.cell (h.2 j u hu) (fun e => hB (Option.some.inj e))⟩
theorem CS.drew {W : World} {BA B1 o : Nat} {v : Value} {c m : TD} {w1 : World} (h : CS W BA B1 o v c m w1) : CS W BA B1 o v c m w1.drew := ⟨⟨h.1.os, h.1.tape, h.1.output, h.1.size, h.1.block⟩, h.2⟩
def CT (W : World) (BA B1 o : Nat) (v : Value) (p1 p2 : Option Addr) (s1 s2 : ByteArray) (o1 o2 k1 k2 : Nat) (w : World) : Prop := CS W BA B1 o v ⟨p1, s1, o1, k1⟩ ⟨p2, s2, o2, k2⟩ w ∧ w.cell? ⟨B1, o, none⟩ = some v ∧ w.cell? ⟨B1, o + 1, none⟩ = some (.pointer p1) ∧ w.cell? ⟨B1, o + 2, none⟩ = some (.string s1) ∧ w.cell? ⟨B1, o + 3, none⟩ = some (.int .i32 0) ∧ w.cell? ⟨B1, o + 4, none⟩ = some (.int .u32 0) ∧ w.cell? ⟨B1, o + 5, none⟩ = some (.int .u16 o1) ∧ w.cell? ⟨B1, o + 6, none⟩ = some (.int .u8 k1) ∧ w.cell? ⟨B1, o + 7, none⟩ = some (.int .u8 0) ∧ w.cell? ⟨B1, o + 8, none⟩ = some (.pointer p2) ∧ w.cell? ⟨B1, o + 9, none⟩ = some (.string s2) ∧ w.cell? ⟨B1, o + 10, none⟩ = some (.int .i32 0) ∧ w.cell? ⟨B1, o + 11, none⟩ = some (.int .u32 0) ∧ w.cell? ⟨B1, o + 12, none⟩ = some (.int .u16 o2) ∧ w.cell? ⟨B1, o + 13, none⟩ = some (.int .u8 k2) ∧ w.cell? ⟨B1, o + 14, none⟩ = some (.int .u8 0)
theorem CS.full {W : World} {BA B1 o : Nat} {v : Value} {p1 p2 : Option Addr} {s1 s2 : ByteArray} {o1 o2 k1 k2 : Nat} {w : World} (h : CS W BA B1 o v ⟨p1, s1, o1, k1⟩ ⟨p2, s2, o2, k2⟩ w) : CT W BA B1 o v p1 p2 s1 s2 o1 o2 k1 k2 w := ⟨h, st_cells h.2⟩
theorem cs_call {W : World} {BA B1 o : Nat} {v : Value} {p1 p2 : Option Addr} {s1 s2 : ByteArray} {o1 o2 k1 k2 : Nat} {w1 w2 : World} {R : Prop} (hb : Below w1.heap.size w1 w2) (h : CS W BA B1 o v ⟨p1, s1, o1, k1⟩ ⟨p2, s2, o2, k2⟩ w1 ∧ R) (hB : B1 ≠ BA) : CT W BA B1 o v p1 p2 s1 s2 o1 o2 k1 k2 w2 := (h.1.step (grown_of_below hb) hB).full
theorem cs_grow {W : World} {BA B1 o : Nat} {v : Value} {p1 p2 : Option Addr} {s1 s2 : ByteArray} {o1 o2 k1 k2 : Nat} {w1 w2 : World} {R : Prop} (hg : w1.grownBy w2 (some BA)) (h : CS W BA B1 o v ⟨p1, s1, o1, k1⟩ ⟨p2, s2, o2, k2⟩ w1 ∧ R) (hB : B1 ≠ BA) : CT W BA B1 o v p1 p2 s1 s2 o1 o2 k1 k2 w2 := (h.1.step hg hB).full
theorem cs_alloc {W : World} {BA B1 o : Nat} {v : Value} {p1 p2 : Option Addr} {s1 s2 : ByteArray} {o1 o2 k1 k2 : Nat} {w1 : World} {R : Prop} (ob : Obj) (h : CS W BA B1 o v ⟨p1, s1, o1, k1⟩ ⟨p2, s2, o2, k2⟩ w1 ∧ R) (hB : B1 ≠ BA) : CT W BA B1 o v p1 p2 s1 s2 o1 o2 k1 k2 (w1.alloc ob) := (h.1.step (grown_of_below ((Below.refl _ _).alloc (Nat.le_refl _) _)) hB).full
theorem st_ones (a : Option Addr) (l c : Nat) (x y : TD) : ∀ u ∈ (stA (.slice a l c) x y).toList, u.oneCell' = true := by
  obtain ⟨p1, s1, o1, k1⟩ := x
  obtain ⟨p2, s2, o2, k2⟩ := y
  exact List.all_eq_true.1 (show (stA (.slice a l c) ⟨p1, s1, o1, k1⟩ ⟨p2, s2, o2, k2⟩).toList.all (fun u => u.oneCell') = true from by kernel_rfl)
/-- The copies made so far. -/
def Copied (ss : List SD) (k BA : Nat) (rs : List SD) (wr : World) : Prop := rs.length = k ∧ ∀ j (h : j < rs.length), PosAt wr rs[j].v rs[j].ts ∧ (∀ b o l c, rs[j].v = .slice (some ⟨b, o, none⟩) l c → b ≠ BA) ∧ rs[j].ts = (ss.getD j default).ts ∧ rs[j].m = (ss.getD j default).m
theorem Copied.grown {ss : List SD} {k B : Nat} {rs : List SD} {wr wx : World} (h : Copied ss k B rs wr) (hg : wr.grownBy wx (some B)) : Copied ss k B rs wx :=
  ⟨h.1, fun j hj => ⟨(h.2 j hj).1.grown' hg (h.2 j hj).2.1, (h.2 j hj).2⟩⟩
theorem Copied.snoc {ss : List SD} {k B : Nat} {rs : List SD} {wr : World} (h : Copied ss k B rs wr) (s : SD) (h1 : PosAt wr s.v s.ts) (h2 : ∀ b o l c, s.v = .slice (some ⟨b, o, none⟩) l c → b ≠ B) (h3 : s.ts = (ss.getD k default).ts) (h4 : s.m = (ss.getD k default).m) : Copied ss (k + 1) B (rs ++ [s]) wr := by
  obtain ⟨hl, ha⟩ := h
  refine ⟨by rw [List.length_append, hl]; rfl, fun j hj => ?_⟩
  by_cases hlt : j < rs.length
  · rw [List.getElem_append_left hlt]; exact ha j hlt
  · have : j = k := by simp at hj; omega
    subst this
    rw [List.getElem_append_right (by omega)]
    simp only [hl, Nat.sub_self, List.getElem_cons_zero]
    exact ⟨h1, h2, h3, h4⟩
theorem clr_ok {kind : Int} {base B n c : Nat} {ss : List SD} {w wx : World} (h : Stops kind base B n c ss w) (C : Nat → Bool) (hg : w.grownBy wx (some B)) : ∀ s ∈ clr C ss, PosAt wx s.v s.ts ∧ Good kind s ∧ ∀ b o l c, s.v = .slice (some ⟨b, o, none⟩) l c → b ≠ B := by
  intro s hs
  obtain ⟨j, hj, rfl⟩ := List.getElem_of_mem hs
  have hj' : j < ss.length := by rw [clr_len] at hj; exact hj
  rw [clr_get C ss j hj']
  obtain ⟨h1, h2, h3⟩ := h.ok ss[j] (List.getElem_mem hj')
  cases C j with
  | true => exact ⟨Or.inl ⟨rfl, rfl⟩, ⟨by show (0 : Nat) ≤ 2; omega, fun t ht => by cases ht⟩, fun b o l c e => by cases e⟩
  | false => exact ⟨h1.grown' hg h3, h2, h3⟩
theorem copied_ok {kind : Int} {base B n c k BA : Nat} {ss rs : List SD} {w wr : World} (h : Stops kind base B n c ss w) (hc : Copied ss k BA rs wr) : ∀ s ∈ rs, PosAt wr s.v s.ts ∧ Good kind s ∧ ∀ b o l c, s.v = .slice (some ⟨b, o, none⟩) l c → b ≠ BA := by
  intro s hs
  obtain ⟨j, hj, rfl⟩ := List.getElem_of_mem hs
  obtain ⟨h1, h2, h3, h4⟩ := hc.2 j hj
  refine ⟨h1, ?_, h2⟩
  by_cases hjs : j < ss.length
  · have hg := (h.ok ss[j] (List.getElem_mem hjs)).2.1
    rw [List.getD_eq_getElem?_getD, List.getElem?_eq_getElem hjs] at h3
    exact ⟨by rw [h3]; exact hg.len, fun t ht => hg.tok t (by rw [h3] at ht; exact ht)⟩
  · rw [List.getD_eq_getElem?_getD, List.getElem?_eq_none (by omega)] at h3
    exact ⟨by rw [h3]; exact Nat.zero_le _, fun t ht => by rw [h3] at ht; cases ht⟩
theorem copied_clr {kind : Int} {base B n c BA : Nat} {C : Nat → Bool} {ss rs : List SD} {w wr : World} (h : Stops kind base B n c ss w) (hc : Copied (clr C ss) n BA rs wr) : ∀ i, i < ss.length → (rs.getD i default).ts = (if C i then [] else (ss.getD i default).ts) ∧ (rs.getD i default).m = (ss.getD i default).m := by
  intro i hi
  have hir : i < rs.length := by rw [hc.1, ← h.len]; exact hi
  obtain ⟨h1, h2, h3, h4⟩ := hc.2 i hir
  have e1 : rs.getD i default = rs[i] := by rw [List.getD_eq_getElem?_getD, List.getElem?_eq_getElem hir]; rfl
  have e2 : ss.getD i default = ss[i] := by rw [List.getD_eq_getElem?_getD, List.getElem?_eq_getElem hi]; rfl
  have e3 : (clr C ss).getD i default = if C i then ss[i].nil else ss[i] := by rw [List.getD_eq_getElem?_getD, List.getElem?_eq_getElem (by rw [clr_len]; exact hi)]; exact clr_get C ss i hi
  rw [e1, e2, h3, h4, e3]
  cases C i with
  | true => exact ⟨rfl, rfl⟩
  | false => exact ⟨rfl, rfl⟩
theorem range_below {w wx : World} {b o : Nat} {cs : List Value} (h : w.rangeAt b o cs) (hl : b < w.heap.size) (hb : Below w.heap.size w wx) : wx.rangeAt b o cs := fun j u hu => (hb.cell (p := ⟨b, o + j, none⟩) hl).trans (h j u hu)
theorem row_range {w : World} {base B n c : Nat} {ss : List SD} (h : w.ownsRow base 39 15 (.slice (some ⟨B, 0, none⟩) n c) n (stCells ss)) (hl : ss.length = n) (k : Nat) (hk : k < n) : w.rangeAt B (k * 15) (ss[k]'(by omega)).cs.toList := fun j u hu => by
  have hj : j < 15 := (List.getElem?_eq_some_iff.1 hu).1
  rw [h.cellAt _ (by omega), st_at ss k j (by omega) hj, hu]
theorem tok_range {w : World} {b : Nat} {ts : List TD} (h : ∀ j u, (toksCells ts)[j]? = some u → w.cell? ⟨b, j, none⟩ = some u) (i : Nat) (hi : i < ts.length) : w.rangeAt b (i * 7) ts[i].cs.toList := fun j u hu => by
  have hj : j < 7 := (List.getElem?_eq_some_iff.1 hu).1
  exact h _ _ ((toks_at ts i j hi hj).trans hu)
theorem pair_at {w : World} {base1 base2 B1 B2 n : Nat} {qs rs : List SD} (ha : w.ownsRow base1 39 15 (.slice (some ⟨B1, 0, none⟩) n n) n (stCells qs)) (hr : w.ownsRow base2 39 15 (.slice (some ⟨B2, 0, none⟩) n n) n (stCells rs)) (hpa : ∀ s ∈ qs, PosAt w s.v s.ts) (hpr : ∀ s ∈ rs, PosAt w s.v s.ts) (la : qs.length = n) (lr : rs.length = n) (hc : ∀ j (h : j < rs.length), rs[j].ts = (qs.getD j default).ts) (hle : ∀ s ∈ qs, s.ts.length ≤ 2) (j : Nat) (hj : j < n) :
    ∃ a1 a2 l c1 c2 m1 m2, l ≤ 2 ∧ w.rangeAt B1 (j * 15) (stA (.slice a1 l c1) redT m1).toList ∧ B1 < w.heap.size ∧ w.rangeAt B2 (j * 15) (stA (.slice a2 l c2) redT m2).toList ∧ B2 < w.heap.size ∧ a1.isNone = a2.isNone ∧ ∀ i, i < l → ∃ b1 b2 t, a1 = some ⟨b1, 0, none⟩ ∧ a2 = some ⟨b2, 0, none⟩ ∧ w.rangeAt b1 (i * 7) (TD.cs t).toList ∧ b1 < w.heap.size ∧ w.rangeAt b2 (i * 7) (TD.cs t).toList ∧ b2 < w.heap.size := by
  have h1 := row_range ha la j hj
  have h2 := row_range hr lr j hj
  have h3 := hpa qs[j] (List.getElem_mem _)
  have h4 := hpr rs[j] (List.getElem_mem _)
  have h5 := hc j (by omega)
  have h6 := hle qs[j] (List.getElem_mem _)
  rw [List.getD_eq_getElem?_getD, List.getElem?_eq_getElem (show j < qs.length by omega)] at h5
  change rs[j].ts = qs[j].ts at h5
  generalize qs[j]'(by omega) = x at *
  generalize rs[j]'(by omega) = y at *
  obtain ⟨v1, t1, m1⟩ := x
  obtain ⟨v2, t2, m2⟩ := y
  dsimp only at h3 h4 h5 h6
  subst h5
  rcases h3 with ⟨rfl, rfl⟩ | ⟨b1, c1, rfl, hne1, _, _, hl1, hcell1⟩
  · rcases h4 with ⟨_, rfl⟩ | ⟨b2, c2, rfl, hne2, _, _, hl2, hcell2⟩
    · exact ⟨none, none, 0, 0, 0, midT m1, midT m2, h6, h1, owns_lt' ha, h2, owns_lt' hr, rfl, fun i hi => absurd hi (Nat.not_lt_zero i)⟩
    · exact absurd rfl hne2
  · rcases h4 with ⟨h, rfl⟩ | ⟨b2, c2, rfl, hne2, _, _, hl2, hcell2⟩
    · exact absurd h hne1
    · exact ⟨some ⟨b1, 0, none⟩, some ⟨b2, 0, none⟩, t2.length, c1, c2, midT m1, midT m2, h6, h1, owns_lt' ha, h2, owns_lt' hr, rfl, fun i hi => ⟨b1, b2, t2[i], rfl, rfl, tok_range hcell1 i hi, hl1, tok_range hcell2 i hi, hl2⟩⟩
/-- Two equal tokens lie there. -/
def TS (b1 b2 o : Nat) (p : Option Addr) (st : ByteArray) (u k : Nat) (w : World) : Prop := w.rangeAt b1 o (TD.cs ⟨p, st, u, k⟩).toList ∧ w.rangeAt b2 o (TD.cs ⟨p, st, u, k⟩).toList
def TT (b1 b2 o : Nat) (p : Option Addr) (st : ByteArray) (u k : Nat) (w' : World) : Prop := TS b1 b2 o p st u k w' ∧ w'.cell? ⟨b1, o, none⟩ = some (.pointer p) ∧ w'.cell? ⟨b1, o + 1, none⟩ = some (.string st) ∧ w'.cell? ⟨b1, o + 2, none⟩ = some (.int .i32 0) ∧ w'.cell? ⟨b1, o + 3, none⟩ = some (.int .u32 0) ∧ w'.cell? ⟨b1, o + 4, none⟩ = some (.int .u16 u) ∧ w'.cell? ⟨b1, o + 5, none⟩ = some (.int .u8 k) ∧ w'.cell? ⟨b1, o + 6, none⟩ = some (.int .u8 0) ∧ w'.cell? ⟨b2, o, none⟩ = some (.pointer p) ∧ w'.cell? ⟨b2, o + 1, none⟩ = some (.string st) ∧ w'.cell? ⟨b2, o + 2, none⟩ = some (.int .i32 0) ∧ w'.cell? ⟨b2, o + 3, none⟩ = some (.int .u32 0) ∧ w'.cell? ⟨b2, o + 4, none⟩ = some (.int .u16 u) ∧ w'.cell? ⟨b2, o + 5, none⟩ = some (.int .u8 k) ∧ w'.cell? ⟨b2, o + 6, none⟩ = some (.int .u8 0)
theorem TS.full {b1 b2 o : Nat} {p : Option Addr} {st : ByteArray} {u k : Nat} {w : World} (h : TS b1 b2 o p st u k w) : TT b1 b2 o p st u k w :=
  ⟨h, h.1 0 _ rfl, h.1 1 _ rfl, h.1 2 _ rfl, h.1 3 _ rfl, h.1 4 _ rfl, h.1 5 _ rfl, h.1 6 _ rfl, h.2 0 _ rfl, h.2 1 _ rfl, h.2 2 _ rfl, h.2 3 _ rfl, h.2 4 _ rfl, h.2 5 _ rfl, h.2 6 _ rfl⟩
theorem TS.drew {b1 b2 o : Nat} {p : Option Addr} {st : ByteArray} {u k : Nat} {w : World} (h : TS b1 b2 o p st u k w) : TS b1 b2 o p st u k w.drew := h
theorem ts_call {b1 b2 o : Nat} {p : Option Addr} {st : ByteArray} {u k : Nat} {w1 w2 : World} {R : Prop} (hb : Below w1.heap.size w1 w2) (h : TS b1 b2 o p st u k w1 ∧ R) : TT b1 b2 o p st u k w2 :=
  TS.full ⟨range_below h.1.1 (block_lt_of_cell (h.1.1 0 _ rfl)) hb, range_below h.1.2 (block_lt_of_cell (h.1.2 0 _ rfl)) hb⟩
set_option maxRecDepth 100000 in
set_option maxHeartbeats 4000000 in
theorem law37_any (kind : Int) (S V : Nat → Int) (sa va : Option Addr) (n sc m vc : Nat) (w : World) (hs : RowAt w sa n (intAt .u8 S)) (hv : RowAt w va m (intAt .i8 V)) (hS : ∀ i, i < n → 0 ≤ S i ∧ S i ≤ 255) (hV : ∀ i, i < m → -128 ≤ V i ∧ V i ≤ 127) (hn : n ≤ maxLen) (hm : m ≤ maxLen) (hk0 : 0 ≤ kind) (hk1 : kind ≤ 255) (hpv : PowVars w) :
    Calls Tryz.prog 3 #[.int .u8 kind, .slice sa n sc, .slice va m vc] w (LawOk w) := by
  obtain ⟨i0, hi, hz0, hz1, hz2⟩ := info_parts stop_info
  have HR := Lib.hid (And.intro hs (And.intro hv hpv))
  have HSV := Lib.hid (And.intro hS hV)
  clear hs hv hS hV hpv
  go_enter Tryz.func3, Tryz.ntmps3
  go_wp2_with fail
  refine (zz_FnRemoveImpliedPositionsIsIdempotent kind sa n sc S va m vc V w hn hm).mono ?_
  rintro e w' ⟨bb, rfl, hb, rfl⟩
  clear hb hn hm
  cases bb with
  | false =>
    go_wp2_with fail
    go_ret
    exact ⟨rfl, Below.refl _ _⟩
  | true =>
    by_cases hn2 : n ≤ 256
    · have q1 : ¬ (256 : Int) < n := by omega
      by_cases hm2 : m ≤ 65536
      · have q2 : ¬ (65536 : Int) < m := by omega
        go_wp2_with fail
        refine (build_any S V sa va n sc m vc _ HR.out.1 HR.out.2.1 HSV.out.1 HSV.out.2 hn2 hm2).mono ?_
        rintro e w1 ⟨ss, rfl, hmade, _, hown, hb1⟩
        have hpv1 := HR.out.2.2.below hb1
        have hst1 : Stops (kind % 3) w.heap.size w.heap.size n n ss w1 := ⟨hmade.1, hown, good_of_made (kind % 3) HSV.out.1 HSV.out.2 hmade⟩
        have hw1 := owns_lt' hown
        have HS1 := Lib.hid (And.intro hst1 (And.intro hpv1 hw1))
        clear hmade hown hpv1 hst1 hw1
        go_wp2_with fail
        refine (zzrip_any (kind % 3) w.heap.size w.heap.size n n ss _ HS1.out.1 hn2 HS1.out.2.1).mono ?_
        rintro e w2 ⟨C, rfl, hpass, hown2, hg2⟩
        have hb2 : Below w.heap.size w w2 := hb1.grown hg2 hb1.size (fun j h => by cases h; exact Nat.le_refl _)
        have hst2 : Stops (kind % 3) w.heap.size w.heap.size n n (clr C ss) w2 := ⟨(clr_len C ss).trans HS1.out.1.len, hown2, clr_ok HS1.out.1 C hg2⟩
        have hpv2 := HR.out.2.2.below hb2
        have hw2 := owns_lt' hown2
        have HS2 := Lib.hid (And.intro hst2 (And.intro hpv2 (And.intro hw2 hpass)))
        have HBA := Lib.hid hb2
        clear hown2 hg2 hb2 hb1 hst2 hpv2 hw2 hpass
        generalize hB1 : w.heap.size = B1 at *
        have HEB := Lib.hid hB1
        clear hB1
        go_wp2_with (at_make; refine wpList_make_own _ rfl _ _ 25 rfl w2.heap.size 39 i0 _ 15 Tryz.underlying25 hi hz0 hz1 .i64 .i64 _ n rfl rfl (by rfl) (by rw [hz2]; omega) (by unfold maxLen; omega) (Nat.le_refl _) ?_; intro w3 hown3 hg3)
        have hb3 : Below w2.heap.size w2 w3 := (Below.refl _ _).grown hg3 (Nat.le_refl _) (fun k h => by cases h)
        have HO := Lib.hid (And.intro hown3 hb3)
        clear hown3 hg3 hb3
        go_wp2_with fail
        go_loopw [9, 10] (fun vo iv wr => ∃ (k : Nat) (rs : List SD), k ≤ n ∧ iv = .int .i64 k ∧ vo = .slice (some ⟨w2.heap.size, 0, none⟩) k n ∧ Copied (clr C ss) k w2.heap.size rs wr ∧ wr.ownsRow w2.heap.size 39 15 (.slice (some ⟨w2.heap.size, 0, none⟩) k n) k (stCells rs) ∧ Below w2.heap.size w2 wr) (fun _ iv _ => n - (intOf iv).toNat)
        case atStart => exact ⟨0, [], Nat.zero_le _, rfl, rfl, ⟨rfl, fun j h => absurd h (Nat.not_lt_zero _)⟩, HO.out.1, HO.out.2⟩
        case round =>
          obtain ⟨k, rs, hk, rfl, rfl, hcop, hown, hb⟩ := hrel
          by_cases hlt : k < n
          · have HM := Lib.hid (And.intro hcop (And.intro hown hb))
            have hkl : k < (clr C ss).length := by rw [HS2.out.1.len]; exact hlt
            have hposk := HS2.out.1.ok (clr C ss)[k] (List.getElem_mem hkl)
            have hrg : wr.rangeAt B1 (k * 15) (clr C ss)[k].cs.toList := fun j u hu => by
              have hj : j < 15 := (List.getElem?_eq_some_iff.1 hu).1
              rw [hb.cell (p := ⟨B1, k * 15 + j, none⟩) HS2.out.2.2.1, HS2.out.1.row.cellAt _ (by omega), st_at (clr C ss) k j hkl hj, hu]
            have hgd : (clr C ss).getD k default = (clr C ss)[k] := by rw [List.getD_eq_getElem?_getD, List.getElem?_eq_getElem hkl]; rfl
            have HP := Lib.hid (And.intro (hposk.1.below hb) (And.intro hposk.2.1 hgd))
            clear hcop hown hb hposk hgd
            generalize (clr C ss)[k] = s at *
            clear hkl
            obtain ⟨v, ts, mm⟩ := s
            obtain ⟨a1, l1, c1, rfl⟩ := posAt_form HP.out.1
            change wr.rangeAt B1 (k * 15) (stA (.slice a1 l1 c1) redT (midT mm)).toList at hrg
            generalize hred : redT = ct at hrg
            generalize hmid : midT mm = mt at hrg
            have HE := Lib.hid (And.intro hred hmid)
            clear hred hmid
            obtain ⟨p1, s1, o1, k1⟩ := ct
            obtain ⟨p2, s2, o2, k2⟩ := mt
            have hBne : B1 ≠ w2.heap.size := by have := HS2.out.2.2.1; omega
            have E0 := Lib.hid (show CS wr w2.heap.size B1 (k * 15) (.slice a1 l1 c1) ⟨p1, s1, o1, k1⟩ ⟨p2, s2, o2, k2⟩ wr from ⟨⟨rfl, rfl, rfl, Nat.le_refl _, fun _ _ _ => rfl⟩, hrg⟩)
            have HW0 := Lib.hid (Below.refl wr.heap.size wr)
            clear hrg
            go_upto_region 13 with fail
            go_region_held3 (fun w' => CS wr w2.heap.size B1 (k * 15) (.slice a1 l1 c1) ⟨p1, s1, o1, k1⟩ ⟨p2, s2, o2, k2⟩ w' ∧ w'.cell? ⟨B1, k * 15, none⟩ = some (.slice a1 l1 c1) ∧ w'.cell? ⟨B1, k * 15 + 1, none⟩ = some (.pointer p1) ∧ w'.cell? ⟨B1, k * 15 + 2, none⟩ = some (.string s1) ∧ w'.cell? ⟨B1, k * 15 + 3, none⟩ = some (.int .i32 0) ∧ w'.cell? ⟨B1, k * 15 + 4, none⟩ = some (.int .u32 0) ∧ w'.cell? ⟨B1, k * 15 + 5, none⟩ = some (.int .u16 o1) ∧ w'.cell? ⟨B1, k * 15 + 6, none⟩ = some (.int .u8 k1) ∧ w'.cell? ⟨B1, k * 15 + 7, none⟩ = some (.int .u8 0) ∧ w'.cell? ⟨B1, k * 15 + 8, none⟩ = some (.pointer p2) ∧ w'.cell? ⟨B1, k * 15 + 9, none⟩ = some (.string s2) ∧ w'.cell? ⟨B1, k * 15 + 10, none⟩ = some (.int .i32 0) ∧ w'.cell? ⟨B1, k * 15 + 11, none⟩ = some (.int .u32 0) ∧ w'.cell? ⟨B1, k * 15 + 12, none⟩ = some (.int .u16 o2) ∧ w'.cell? ⟨B1, k * 15 + 13, none⟩ = some (.int .u8 k2) ∧ w'.cell? ⟨B1, k * 15 + 14, none⟩ = some (.int .u8 0)) (first | exact E0.out.drew.full | exact cs_call hb5 (by assumption) hBne | exact cs_call hb6 (by assumption) hBne | exact cs_call hb7 (by assumption) hBne | exact cs_call hb8 (by assumption) hBne | exact cs_call hb9 (by assumption) hBne | exact cs_alloc _ (by assumption) hBne | exact cs_grow hg10 (by assumption) hBne | assumption) (first | (go_at_call 8; refine (stopColor_any (.slice a1 l1 c1) ⟨p1, s1, o1, k1⟩ ⟨p2, s2, o2, k2⟩ _).mono ?_; rintro e w5 ⟨rfl, hb5⟩; have hx5 := HW0.out.drew.trans (hb5.mono HW0.out.drew.size)) | (go_at_call 10; refine (stopPos_any (.slice a1 l1 c1) ⟨p1, s1, o1, k1⟩ ⟨p2, s2, o2, k2⟩ _).mono ?_; rintro e w6 ⟨rfl, hb6⟩; have hx6 := hx5.trans (hb6.mono hx5.size)) | (go_at_call 9; refine (clone_any (.slice a1 l1 c1) ts _ (HP.out.1.below hx6) HP.out.2.1.len).mono ?_; rintro e w7 ⟨v7, rfl, hp7, hb7, hf7⟩; obtain ⟨a7, l7, c7, rfl⟩ := posAt_form hp7; have hx7 := hx6.trans (hb7.mono hx6.size)) | (go_at_call 11; refine (stopMid_any (.slice a1 l1 c1) ⟨p1, s1, o1, k1⟩ ⟨p2, s2, o2, k2⟩ _).mono ?_; rintro e w8 ⟨rfl, hb8⟩; have hx8 := hx7.trans (hb8.mono hx7.size)) | (go_at_call 7; refine (newStop_any a7 l7 c7 ⟨p1, s1, o1, k1⟩ ⟨p2, s2, o2, k2⟩ _).mono ?_; rintro e w9 ⟨rfl, hb9⟩; have hx9 := hx8.trans (hb9.mono hx8.size)) | (refine step_append_fits rfl (.tmp 43) (.tmp 61) 25 rfl w2.heap.size 39 i0 15 Tryz.underlying25 hi hz1 w2.heap.size k n (stCells rs) rfl ((own_below' HM.out.2.1 hx9).alloc _) ⟨w9.heap.size, 0, none⟩ 1 1 (stA (.slice a7 l7 c7) ⟨p1, s1, o1, k1⟩ ⟨p2, s2, o2, k2⟩).toList rfl rfl (new_row _ _ rfl _ _ _) (st_ones _ _ _ _ _) (by omega) ?_; intro w10 hown10 hg10))
            have hal := hx9.alloc hx9.size (.cells (stA (.slice a7 l7 c7) ⟨p1, s1, o1, k1⟩ ⟨p2, s2, o2, k2⟩) 39)
            have hlB := owns_lt' HM.out.2.1
            have hgr : wr.grownBy w10 (some w2.heap.size) := (grown_of_below hal).trans hg10
            have hbw : Below w2.heap.size w2 w10 := (HM.out.2.2.trans (hal.mono HM.out.2.2.size)).grown hg10 (by have := hal.size; have := HM.out.2.2.size; omega) (fun j h => by cases h; exact Nat.le_refl _)
            have hfr : ∀ b o l c, (Value.slice a7 l7 c7) = .slice (some ⟨b, o, none⟩) l c → b ≠ w2.heap.size := fun b o l c hv => by
              have h1 := hf7 b o l c hv
              have h2 := hx6.size
              omega
            have hp10 : PosAt w10 (.slice a7 l7 c7) ts := (((hp7.below hb8).below hb9).below ((Below.refl _ _).alloc (Nat.le_refl _) (.cells (stA (.slice a7 l7 c7) ⟨p1, s1, o1, k1⟩ ⟨p2, s2, o2, k2⟩) 39))).grown' hg10 hfr
            have hcp := (HM.out.1.grown hgr).snoc ⟨.slice a7 l7 c7, ts, mm⟩ hp10 hfr (by rw [HP.out.2.2]) (by rw [HP.out.2.2])
            rw [show (stA (.slice a7 l7 c7) ⟨p1, s1, o1, k1⟩ ⟨p2, s2, o2, k2⟩).toList = (SD.cs ⟨.slice a7 l7 c7, ts, mm⟩).toList from by unfold SD.cs; rw [HE.out.1, HE.out.2], ← stCells_snoc'] at hown10
            have HF := Lib.hid (And.intro hcp (And.intro hown10 hbw))
            clear hal hgr hbw hfr hp10 hcp hown10 hb5 hb6 hb7 hb8 hb9 hp7 hf7 hx5 hx6 hx7 hx8 hx9 hg10
            go_wp2_with fail
            go_roundw
            case rel => exact ⟨k + 1, _, by omega, by go_num, rfl, HF.out.1, HF.out.2.1, HF.out.2.2⟩
            case measure => simp [intOf]; omega
          · obtain rfl : k = n := by omega
            have hcopy := copied_ok HS2.out.1 hcop
            have hpv4 := HS2.out.2.1.below hb
            have hst4 : Stops (kind % 3) w2.heap.size w2.heap.size k k rs wr := ⟨hcop.1, hown, hcopy⟩
            have hs4 := copied_clr HS1.out.1 hcop
            have HM := Lib.hid (And.intro hst4 (And.intro hpv4 (And.intro hs4 hb)))
            clear hcopy hpv4 hst4 hs4 hown hb
            go_wp2_with fail
            refine (zzrip_any (kind % 3) w2.heap.size w2.heap.size k k rs _ HM.out.1 hn2 HM.out.2.1).mono ?_
            rintro e w4 ⟨C2, rfl, hpass2, hown4, hg4⟩
            have hC2 := second_pass HS2.out.2.2.2 (HM.out.1.len.trans HS1.out.1.len.symm) HM.out.2.2.1 hpass2
            obtain rfl : C2 = fun _ => false := funext hC2
            have hb4 : Below w2.heap.size w2 w4 := HM.out.2.2.2.grown hg4 HM.out.2.2.2.size (fun j h => by cases h; exact Nat.le_refl _)
            have hst5 := clr_ok HM.out.1 (fun _ => false) hg4
            rw [clr_none] at hown4 hst5
            have hst6 : ∀ s ∈ clr C ss, PosAt w4 s.v s.ts := fun s hs => (HS2.out.1.ok s hs).1.below hb4
            have hown6 := own_below' HS2.out.1.row hb4
            have HZ := Lib.hid (And.intro hown4 (And.intro hown6 (And.intro (fun s hs => (hst5 s hs).1) (And.intro hst6 (And.intro HM.out.1.len ((clr_len C ss).trans HS1.out.1.len))))))
            have HCP := Lib.hid hcop.2
            have HBB := Lib.hid (And.intro (HBA.out.trans (hb4.mono (Nat.le_of_lt HS2.out.2.2.1))) (Nat.le_trans (Nat.le_of_lt HS2.out.2.2.1) hb4.size))
            clear hpass2 hown4 hg4 hC2 hb4 hst5 hst6 hown6 hcop
            go_wp2_with fail
            go_loopw [12] (fun iv w5 => ∃ (j : Nat), j ≤ k ∧ iv = .int .i64 j ∧ Below w4.heap.size w4 w5) (fun iv _ => k - (intOf iv).toNat)
            case atStart => exact ⟨0, Nat.zero_le _, rfl, Below.refl _ _⟩
            case round =>
              obtain ⟨j, hj, rfl, hb5⟩ := hrel
              by_cases hjk : j < k
              · obtain ⟨a1, a2, l, c1, c2, m1, m2, hl2, hA, hA', hB, hB', hnil, htk⟩ := pair_at HZ.out.2.1 HZ.out.1 HZ.out.2.2.2.1 HZ.out.2.2.1 HZ.out.2.2.2.2.2 HZ.out.2.2.2.2.1 (fun j h => (HCP.out j h).2.2.1) (fun s hs => (HS2.out.1.ok s hs).2.1.len) j hjk
                have hq1 := fun (wx : World) => Lib.run_eql_slice_nil (P := Tryz.prog) wx 28 37 a1 l c1 0 0 Tryz.underlying28
                have hq2 := fun (wx : World) => Lib.run_eql_slice_nil (P := Tryz.prog) wx 28 37 a2 l c2 0 0 Tryz.underlying28
                rw [← hnil] at hq2
                have HA := Lib.hid (And.intro (range_below hA hA' hb5) (And.intro hA hA'))
                have HB := Lib.hid (And.intro hB hB')
                have HT := Lib.hid (And.intro htk hb5)
                clear hA hA' hB hB' hnil htk hb5
                generalize a1.isNone = nb at hq1 hq2
                go_wp2_with (refine wpList_load_mid rfl 39 (.tmp 79) rfl B1 _ rfl (stA (.slice a1 l c1) redT m1).toList _ HA.out.1 Tryz.underlying39 rfl st_size ?_)
                refine (stopPos_any (.slice a1 l c1) redT m1 _).mono ?_
                rintro e w6 ⟨rfl, hb6⟩
                have hx6 := HT.out.2.trans (hb6.mono HT.out.2.size)
                have HB2 := Lib.hid (range_below HB.out.1 HB.out.2 hx6)
                clear hb6
                go_wp2_with (refine wpList_load_mid rfl 39 (.tmp 84) rfl w2.heap.size _ rfl (stA (.slice a2 l c2) redT m2).toList _ HB2.out Tryz.underlying39 rfl st_size ?_)
                refine (stopPos_any (.slice a2 l c2) redT m2 _).mono ?_
                rintro e w7 ⟨rfl, hb7⟩
                have HX7 := Lib.hid (hx6.trans (hb7.mono hx6.size))
                clear hb7 hx6
                go_wp2_with fail
                go_loopw [15] (fun jv w8 => ∃ (i : Nat), i ≤ l ∧ jv = .int .i64 i ∧ Below w4.heap.size w4 w8) (fun jv _ => l - (intOf jv).toNat)
                case atStart => exact ⟨0, Nat.zero_le _, rfl, HX7.out⟩
                case round =>
                  obtain ⟨i, hil', rfl, hb8⟩ := hrel
                  by_cases hil : i < l
                  · obtain ⟨b1, b2, t, rfl, rfl, hr1, hl1, hr2, hl2⟩ := HT.out.1 i hil
                    obtain ⟨p, st, o, kk⟩ := t
                    have E1 := Lib.hid (show TS b1 b2 (i * 7) p st o kk wr from ⟨range_below hr1 hl1 hb8, range_below hr2 hl2 hb8⟩)
                    have HX8 := Lib.hid hb8
                    clear hr1 hl1 hr2 hl2 hb8
                    go_upto_region 27 with fail
                    go_region_held3 (fun w' => TS b1 b2 (i * 7) p st o kk w' ∧ w'.cell? ⟨b1, i * 7, none⟩ = some (.pointer p) ∧ w'.cell? ⟨b1, i * 7 + 1, none⟩ = some (.string st) ∧ w'.cell? ⟨b1, i * 7 + 2, none⟩ = some (.int .i32 0) ∧ w'.cell? ⟨b1, i * 7 + 3, none⟩ = some (.int .u32 0) ∧ w'.cell? ⟨b1, i * 7 + 4, none⟩ = some (.int .u16 o) ∧ w'.cell? ⟨b1, i * 7 + 5, none⟩ = some (.int .u8 kk) ∧ w'.cell? ⟨b1, i * 7 + 6, none⟩ = some (.int .u8 0) ∧ w'.cell? ⟨b2, i * 7, none⟩ = some (.pointer p) ∧ w'.cell? ⟨b2, i * 7 + 1, none⟩ = some (.string st) ∧ w'.cell? ⟨b2, i * 7 + 2, none⟩ = some (.int .i32 0) ∧ w'.cell? ⟨b2, i * 7 + 3, none⟩ = some (.int .u32 0) ∧ w'.cell? ⟨b2, i * 7 + 4, none⟩ = some (.int .u16 o) ∧ w'.cell? ⟨b2, i * 7 + 5, none⟩ = some (.int .u8 kk) ∧ w'.cell? ⟨b2, i * 7 + 6, none⟩ = some (.int .u8 0)) (first | exact E1.out.drew.full | exact ts_call hb9 (by assumption) | assumption) (first | (go_at_call 12; refine (same_any ⟨p, st, o, kk⟩ ⟨p, st, o, kk⟩ _ rfl rfl rfl).mono ?_; rintro e w9 ⟨rfl, hb9⟩))
                    have HX9 := Lib.hid (HX8.out.drew.trans (hb9.mono HX8.out.drew.size))
                    clear hb9
                    go_wp2_with fail
                    go_roundw
                    case rel => exact ⟨i + 1, by omega, by go_num, HX9.out⟩
                    case measure => simp [intOf]; omega
                  · have HX8 := Lib.hid hb8
                    clear hb8
                    go_wp2_with fail
                    exact ⟨⟨j + 1, by omega, by go_num, HX8.out⟩, by simp [intOf]; omega⟩
              · go_wp2_with fail
                go_ret
                exact ⟨rfl, by rw [HEB.out]; exact HBB.out.1.trans (hb5.mono HBB.out.2)⟩
      · have q2 : (65536 : Int) < m := by omega
        go_wp2_with fail
        go_ret
        exact ⟨rfl, Below.refl _ _⟩
    · have q1 : (256 : Int) < n := by omega
      go_wp2_with fail
      go_ret
      exact ⟨rfl, Below.refl _ _⟩
end Go.Proofs.YtnmjfjfpedbalaaGreatDoor
