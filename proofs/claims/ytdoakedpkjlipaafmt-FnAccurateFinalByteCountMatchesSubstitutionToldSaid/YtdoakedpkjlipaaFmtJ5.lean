/- The joiner: texts and bytes are added. -/
import Derived.Test.YtdoakedpkjlipaaFmtJ4
import Derived.Deep.RegionHeld3
import Derived.Deep.RegionLaw
import Derived.Deep.AppendLies
import Derived.OwnWalk
namespace Go.Proofs.YtdoakedpkjlipaaFmt
open Go.RowKit
set_option linter.unusedVariables false

structure BEnt where
  a : Option Addr
  n : Nat
  c : Nat
  off : Nat
def cellsS (l : List (ByteArray × Nat)) : List Value := l.flatMap fun e => [.string e.1, .int .u32 e.2]
def cellsB (l : List BEnt) : List Value := l.flatMap fun e => [.slice e.a e.n e.c, .int .u32 e.off]
theorem cellsS_append (a b : List (ByteArray × Nat)) : cellsS (a ++ b) = cellsS a ++ cellsS b := List.flatMap_append
theorem cellsB_append (a b : List BEnt) : cellsB (a ++ b) = cellsB a ++ cellsB b := List.flatMap_append
/-- The world below base is as it was, and every block of another make than the joiner's rows. -/
structure JKept (base J : Nat) (w w' : World) : Prop where
  os : w'.os = w.os
  tape : w'.tape = w.tape
  output : w'.output = w.output
  size : w.heap.size ≤ w'.heap.size
  block : ∀ k, k < w.heap.size → k ≠ J → k < base → w'.heap[k]? = w.heap[k]?
  other : ∀ (k : Nat) (cs : Array Value) (T : TypeId) (fr : Nat × Nat), w.heap[k]? = some (.cells cs T fr) → k ≠ J → T ≠ 197 → T ≠ 195 → w'.heap[k]? = some (.cells cs T fr)
theorem JKept.refl (base J : Nat) (w : World) : JKept base J w w := ⟨rfl, rfl, rfl, Nat.le_refl _, fun _ _ _ _ => rfl, fun _ _ _ _ h _ _ _ => h⟩
theorem JKept.trans {base J : Nat} {a b c : World} (h : JKept base J a b) (g : JKept base J b c) : JKept base J a c :=
  ⟨g.os.trans h.os, g.tape.trans h.tape, g.output.trans h.output, Nat.le_trans h.size g.size, fun k hk hn hb => (g.block k (Nat.lt_of_lt_of_le hk h.size) hn hb).trans (h.block k hk hn hb), fun k cs T fr hk hn h1 h2 => g.other k cs T fr (h.other k cs T fr hk hn h1 h2) hn h1 h2⟩
structure JoinSt (base J : Nat) (w : World) (ss : List (ByteArray × Nat)) (bs : List BEnt) (L : Nat) : Prop where
  ne : J < base
  st : ∃ (vs vb : Value) (lb : Int), w.heap[J]? = some (.cells #[vs, vb, .int .u32 L, .int .u8 lb] 40 (0, 0)) ∧ w.ownsRow base 197 2 vs ss.length (cellsS ss) ∧ w.ownsRow base 195 2 vb bs.length (cellsB bs)
theorem str_info : (Tryf.prog.info? 197).map (fun i => (i.zero, i.size, i.bytes)) = some (some (.agg #[.string ByteArray.empty, .int .u32 0]), 2, 24) := by kernel_rfl
theorem byt_info : (Tryf.prog.info? 195).map (fun i => (i.zero, i.size, i.bytes)) = some (some (.agg #[.slice none 0 0, .int .u32 0]), 2, 32) := by kernel_rfl
def Added (base J : Nat) (ss : List (ByteArray × Nat)) (bs : List BEnt) (L : Nat) (w : World) (e : Ending) (w' : World) : Prop := e = .returned (.tuple #[]) ∧ JoinSt base J w' ss bs L ∧ JKept base J w w'
theorem owns_apart {w : World} {base : Nat} {n m : Nat} {T U : TypeId} {size : Nat} {v u : Value} {xs ys : List Value} (h : w.ownsRow base T size v n xs) (g : w.ownsRow base U size u m ys) (hTU : T ≠ U) : v.ownBlock = none ∨ v.ownBlock ≠ u.ownBlock := by
  rcases h.2 with ⟨rfl, _⟩ | ⟨b, cap, cur, rfl, _, hb, _⟩
  · exact Or.inl rfl
  · refine Or.inr fun e => ?_
    rcases g.2 with ⟨rfl, _⟩ | ⟨b', cap', cur', rfl, _, hb', _⟩
    · cases e
    · have := Option.some.inj e
      simp at this
      subst this
      rw [hb] at hb'
      have h2 := Option.some.inj hb'
      simp at h2
      exact hTU h2.2
theorem own_ge {w : World} {base : Nat} {e : TypeId} {size n : Nat} {v : Value} {xs : List Value} (h : w.ownsRow base e size v n xs) {J : Nat} (hJ : J < base) : v.ownBlock ≠ some J := fun e => by have := (h.lt _ e).1; omega
theorem JKept.setCell {base J : Nat} {w w' : World} (h : JKept base J w w') (i : Nat) (v : Value) : JKept base J w (w'.setCell ⟨J, i, none⟩ v) := by
  refine ⟨h.os, h.tape, h.output, by simp; exact h.size, fun k hk hn hb => ?_, fun k cs T fr hk hn h1 h2 => ?_⟩
  · rw [heap_setCell_other _ _ _ _ (show k ≠ J from hn)]; exact h.block k hk hn hb
  · rw [heap_setCell_other _ _ _ _ (show k ≠ J from hn)]; exact h.other k cs T fr hk hn h1 h2
theorem JKept.alloc {base J : Nat} {w w' : World} (h : JKept base J w w') (o : Obj) : JKept base J w (w'.alloc o) := by
  refine ⟨h.os, h.tape, h.output, by have := h.size; simp; omega, fun k hk hn hb => ?_, fun k cs T fr hk hn h1 h2 => ?_⟩
  · rw [heap_alloc_old _ _ (Nat.lt_of_lt_of_le hk h.size)]; exact h.block k hk hn hb
  · have := h.other k cs T fr hk hn h1 h2
    rw [heap_alloc_old _ _ (Array.getElem?_eq_some_iff.1 this).1]; exact this
theorem JKept.drew {base J : Nat} {w w' : World} (h : JKept base J w w') : JKept base J w w'.drew := ⟨h.os, h.tape, h.output, h.size, h.block, h.other⟩
theorem JKept.grown {base J n size : Nat} {T : TypeId} {w w' w2 : World} {v : Value} {xs : List Value} (h : JKept base J w w') (hown : w'.ownsRow base T size v n xs) (hT : T = 197 ∨ T = 195) (hg : w'.grownBy w2 v.ownBlock) : JKept base J w w2 := by
  refine ⟨hg.os.trans h.os, hg.tape.trans h.tape, hg.output.trans h.output, Nat.le_trans h.size hg.size, fun k hk hn hb => ?_, fun k cs T' fr hk hn h1 h2 => ?_⟩
  · rw [hg.block k (Nat.lt_of_lt_of_le hk h.size) (fun e => by have := (hown.lt _ e.symm).1; omega)]; exact h.block k hk hn hb
  · have h3 := h.other k cs T' fr hk hn h1 h2
    rw [hg.block k (Array.getElem?_eq_some_iff.1 h3).1 ?_]
    · exact h3
    · intro e
      rcases hown.2 with ⟨rfl, _⟩ | ⟨b, cap, cur, rfl, _, hb, _⟩
      · cases e
      · have := Option.some.inj e
        simp at this
        subst this
        rw [hb] at h3
        have h4 := Option.some.inj h3
        simp at h4
        rcases hT with rfl | rfl
        · exact h1 h4.2.1.symm
        · exact h2 h4.2.1.symm
/-- What an append to one of the joiner's rows leaves. -/
theorem add_close {base J n m p q g cap k : Nat} {T U : TypeId} {w W w1 : World} {v u a b : Value} {xs ys zs : List Value} {o : Obj} (hne : J < base) (hT : T = 197 ∨ T = 195) (hTU : U ≠ T) (hW : JKept base J w W)
    (hS : W.ownsRow base T 2 v n xs) (hB : W.ownsRow base U 2 u m ys) (hg : ((W.alloc o).drew).grownBy w1 v.ownBlock) (hown : w1.ownsRow base T 2 (.slice (some ⟨g, 0, none⟩) k cap) k zs) :
    ((w1.setCell ⟨J, p, none⟩ a).setCell ⟨J, q, none⟩ b).ownsRow base T 2 (.slice (some ⟨g, 0, none⟩) k cap) k zs ∧ ((w1.setCell ⟨J, p, none⟩ a).setCell ⟨J, q, none⟩ b).ownsRow base U 2 u m ys ∧ JKept base J w ((w1.setCell ⟨J, p, none⟩ a).setCell ⟨J, q, none⟩ b) := by
  refine ⟨?_, ?_, ?_⟩
  · exact ownsRow_setCell_below (ownsRow_setCell_below hown (show J < base from hne) _) (show J < base from hne) _
  · have h1 : ((W.alloc o).drew).ownsRow base U 2 u m ys := (hB.alloc o).drew
    exact ownsRow_setCell_below (ownsRow_setCell_below (h1.kept hg (owns_apart hB hS hTU)) (show J < base from hne) _) (show J < base from hne) _
  · exact ((((hW.alloc o).drew).grown ((hS.alloc o).drew) hT hg).setCell _ _).setCell _ _
/-- What the adders come to. -/
theorem adders : True := trivial
set_option maxRecDepth 100000 in
set_option maxHeartbeats 2000000 in
theorem addS_any (base J L : Nat) (ss : List (ByteArray × Nat)) (bs : List BEnt) (s : ByteArray) (w : World) (h : JoinSt base J w ss bs L) (hb : base ≤ w.heap.size) (hs : s.size ≤ 4194304) (hL : L ≤ 4194304) (hn : ss.length ≤ 65536) :
    Calls Tryf.prog 24 #[.pointer (some ⟨J, 0, none⟩), .string s] w (Added base J (ss ++ [(s, L)]) bs (L + s.size) w) := by
  obtain ⟨i0, hi, hz0, hz1, hz2⟩ := info_parts str_info
  obtain ⟨hne, vs, vb, lb, hJ, hS, hB⟩ := h
  have hJl := (Array.getElem?_eq_some_iff.1 hJ).1
  have hge := own_ge hS hne
  have HGE := Lib.hid hge
  have h1 : ss.length + 1 ≤ maxLen := by unfold maxLen; omega
  have h2 : (ss.length + 1) * 24 ≤ 140737488355328 := by omega
  clear hge
  by_cases h0 : 0 < s.size
  · have f3 := frozen_of_row w J 3 _ _ hJ
    have j3 := cell_of_row _ _ 3 _ _ _ hJ
    simp only [List.getElem?_toArray, List.getElem?_cons_zero, List.getElem?_cons_succ] at j3
    have HJ0 := Lib.hid hJ
    have HS0 := Lib.hid hS
    have HB0 := Lib.hid hB
    clear hS hB hJ
    go_enter Tryf.func24, Tryf.ntmps24
    go_wp2_with fail
    generalize hy : (s[s.size - 1].toNat : Int) = y
    clear hy
    have hS : (w.setCell ⟨J, 3, none⟩ (.int .u8 y)).ownsRow base 197 2 vs ss.length (cellsS ss) := ownsRow_setCell_below HS0.out (show J < base from hne) _
    have hB : (w.setCell ⟨J, 3, none⟩ (.int .u8 y)).ownsRow base 195 2 vb bs.length (cellsB bs) := ownsRow_setCell_below HB0.out (show J < base from hne) _
    have hJ : (w.setCell ⟨J, 3, none⟩ (.int .u8 y)).heap[J]? = some (.cells #[vs, vb, .int .u32 L, .int .u8 y] 40 (0, 0)) := heap_setCell_same _ _ 3 _ _ _ HJ0.out
    have hK : JKept base J w (w.setCell ⟨J, 3, none⟩ (.int .u8 y)) := (JKept.refl base J w).setCell 3 _
    have hbW : base ≤ (w.setCell ⟨J, 3, none⟩ (.int .u8 y)).heap.size := by simpa using hb
    have hJl : J < (w.setCell ⟨J, 3, none⟩ (.int .u8 y)).heap.size := (Array.getElem?_eq_some_iff.1 hJ).1
    have HK := Lib.hid hK
    clear hK j3 f3
    generalize w.setCell ⟨J, 3, none⟩ (.int .u8 y) = W at *
    have jc := cell_of_row _ _ 0 _ _ _ hJ
    have j2 := cell_of_row _ _ 2 _ _ _ hJ
    simp only [List.getElem?_toArray, List.getElem?_cons_zero, List.getElem?_cons_succ] at jc j2
    have HSW := Lib.hid hS
    have HBW := Lib.hid hB
    have HJ := Lib.hid hJ
    clear hS hB hJ
    go_region_law
      ((refine step_append_lies _ (by rfl) (.tmp 19) (.tmp 26) 36 (by rfl) base 197 i0 _ 2 24 Tryf.underlying36 hi hz0 hz1 hz2 rfl (by omega) vs ss.length (cellsS ss) (by rfl) ((HSW.out.alloc _).drew) ⟨W.heap.size, 0, none⟩ 1 1 [.string s, .int .u32 L] (by rfl) (by rfl) (World.news_of_block (cs := #[.string s, .int .u32 L]) (t := 197) (fr := (0, 0)) (heap_alloc_new W _)) (by simp [Value.oneCell']) (by omega) h1 h2 (by simp; omega) (W.heap.size + 1) (by simp) ?_; intro gg cap w1 hown1 hgrow hat hlt; have e1 : w1.heap[J]? = some (.cells #[vs, vb, .int .u32 L, .int .u8 y] 40 (0, 0)) := (hgrow.block J (by simp; omega) (fun e => HGE.out e.symm)).trans ((heap_alloc_old W _ hJl).trans HJ.out); have q0 := cell_of_row _ _ 0 _ _ _ e1; have q2 := cell_of_row _ _ 2 _ _ _ e1; have qf0 := frozen_of_row w1 J 0 _ _ e1; have qf2 := frozen_of_row w1 J 2 _ _ e1; have ql := (Array.getElem?_eq_some_iff.1 e1).1; simp only [List.getElem?_toArray, List.getElem?_cons_zero, List.getElem?_cons_succ] at q0 q2; have HE1 := Lib.hid (And.intro e1 (And.intro hown1 (And.intro hgrow hat))); clear e1 hown1 hat))
    all_goals
      go_wp2_with fail
      go_end0
      obtain ⟨c1, c2, c3⟩ := add_close (p := 0) (q := 2) (a := .slice (some ⟨gg, 0, none⟩) (ss.length + 1) cap) (b := .int .u32 (L + s.size : Nat)) hne (Or.inl rfl) (by decide) HK.out HSW.out HBW.out HE1.out.2.2.1 HE1.out.2.1
      have e2 := heap_setCell_same _ _ 2 _ _ (.int .u32 (L + s.size : Nat)) (heap_setCell_same _ _ 0 _ _ (.slice (some ⟨gg, 0, none⟩) (ss.length + 1) cap) HE1.out.1)
      exact ⟨rfl, ⟨hne, _, _, _, e2, by simpa [cellsS] using c1, c2⟩, c3⟩
  · have h00 : s.size = 0 := by omega
    have jc := cell_of_row _ _ 0 _ _ _ hJ
    have j2 := cell_of_row _ _ 2 _ _ _ hJ
    simp only [List.getElem?_toArray, List.getElem?_cons_zero, List.getElem?_cons_succ] at jc j2
    have HSW := Lib.hid hS
    have HBW := Lib.hid hB
    have HJ := Lib.hid hJ
    clear hS hB hJ
    go_enter Tryf.func24, Tryf.ntmps24
    go_wp2_with fail
    go_region_law
      ((refine step_append_lies _ (by rfl) (.tmp 19) (.tmp 26) 36 (by rfl) base 197 i0 _ 2 24 Tryf.underlying36 hi hz0 hz1 hz2 rfl (by omega) vs ss.length (cellsS ss) (by rfl) ((HSW.out.alloc _).drew) ⟨w.heap.size, 0, none⟩ 1 1 [.string s, .int .u32 L] (by rfl) (by rfl) (World.news_of_block (cs := #[.string s, .int .u32 L]) (t := 197) (fr := (0, 0)) (heap_alloc_new w _)) (by simp [Value.oneCell']) (by omega) h1 h2 (by simp; omega) (w.heap.size + 1) (by simp) ?_; intro gg cap w1 hown1 hgrow hat hlt; have e1 : w1.heap[J]? = some (.cells #[vs, vb, .int .u32 L, .int .u8 lb] 40 (0, 0)) := (hgrow.block J (by simp; omega) (fun e => HGE.out e.symm)).trans ((heap_alloc_old w _ hJl).trans HJ.out); have q0 := cell_of_row _ _ 0 _ _ _ e1; have q2 := cell_of_row _ _ 2 _ _ _ e1; have qf0 := frozen_of_row w1 J 0 _ _ e1; have qf2 := frozen_of_row w1 J 2 _ _ e1; have ql := (Array.getElem?_eq_some_iff.1 e1).1; simp only [List.getElem?_toArray, List.getElem?_cons_zero, List.getElem?_cons_succ] at q0 q2; have HE1 := Lib.hid (And.intro e1 (And.intro hown1 (And.intro hgrow hat))); clear e1 hown1 hat))
    all_goals
      go_wp2_with fail
      go_end0
      obtain ⟨c1, c2, c3⟩ := add_close (p := 0) (q := 2) (a := .slice (some ⟨gg, 0, none⟩) (ss.length + 1) cap) (b := .int .u32 (L + s.size : Nat)) hne (Or.inl rfl) (by decide) (JKept.refl base J w) HSW.out HBW.out HE1.out.2.2.1 HE1.out.2.1
      have e2 := heap_setCell_same _ _ 2 _ _ (.int .u32 (L + s.size : Nat)) (heap_setCell_same _ _ 0 _ _ (.slice (some ⟨gg, 0, none⟩) (ss.length + 1) cap) HE1.out.1)
      rw [h00] at *
      exact ⟨rfl, ⟨hne, _, _, _, e2, by simpa [cellsS] using c1, c2⟩, c3⟩
set_option maxRecDepth 100000 in
set_option maxHeartbeats 2000000 in
theorem addB_any (base J L : Nat) (ss : List (ByteArray × Nat)) (bs : List BEnt) (da : Option Addr) (N c : Nat) (d : Nat → UInt8) (w : World) (h : JoinSt base J w ss bs L) (hb : base ≤ w.heap.size) (hs : N ≤ 4194304) (hL : L ≤ 4194304) (hn : bs.length ≤ 65536) (hr : RowAt w da N (byteAt d)) :
    Calls Tryf.prog 21 #[.pointer (some ⟨J, 0, none⟩), .slice da N c] w (Added base J ss (bs ++ [⟨da, N, c, L⟩]) (L + N) w) := by
  obtain ⟨i0, hi, hz0, hz1, hz2⟩ := info_parts byt_info
  obtain ⟨hne, vs, vb, lb, hJ, hS, hB⟩ := h
  have hJl := (Array.getElem?_eq_some_iff.1 hJ).1
  have hge := own_ge hB hne
  have HGE := Lib.hid hge
  have h1 : bs.length + 1 ≤ maxLen := by unfold maxLen; omega
  have h2 : (bs.length + 1) * 32 ≤ 140737488355328 := by omega
  clear hge
  by_cases h0 : 0 < N
  · have f3 := frozen_of_row w J 3 _ _ hJ
    have j3 := cell_of_row _ _ 3 _ _ _ hJ
    simp only [List.getElem?_toArray, List.getElem?_cons_zero, List.getElem?_cons_succ] at j3
    obtain ⟨db, dof, hda, hdl, hcell⟩ := hr.blk h0
    have hlast := hcell (N - 1) (by omega)
    have i0' : (0 : Int) ≤ (N : Int) - 1 := by omega
    have i1' : (N : Int) - 1 < (N : Int) := by omega
    have i2' : ((N : Int) - 1).toNat = N - 1 := by omega
    subst hda
    simp only [byteAt] at hlast
    generalize (d (N - 1)).toNat = yy at hlast
    clear hcell hr
    have HJ0 := Lib.hid hJ
    have HS0 := Lib.hid hS
    have HB0 := Lib.hid hB
    clear hS hB hJ
    go_enter Tryf.func21, Tryf.ntmps21
    go_wp2_with fail
    obtain ⟨y, hy⟩ : ∃ y : Int, y = (yy : Int) := ⟨_, rfl⟩
    rw [← hy]
    clear hy hlast
    have hS : (w.setCell ⟨J, 3, none⟩ (.int .u8 y)).ownsRow base 197 2 vs ss.length (cellsS ss) := ownsRow_setCell_below HS0.out (show J < base from hne) _
    have hB : (w.setCell ⟨J, 3, none⟩ (.int .u8 y)).ownsRow base 195 2 vb bs.length (cellsB bs) := ownsRow_setCell_below HB0.out (show J < base from hne) _
    have hJ : (w.setCell ⟨J, 3, none⟩ (.int .u8 y)).heap[J]? = some (.cells #[vs, vb, .int .u32 L, .int .u8 y] 40 (0, 0)) := heap_setCell_same _ _ 3 _ _ _ HJ0.out
    have hK : JKept base J w (w.setCell ⟨J, 3, none⟩ (.int .u8 y)) := (JKept.refl base J w).setCell 3 _
    have hbW : base ≤ (w.setCell ⟨J, 3, none⟩ (.int .u8 y)).heap.size := by simpa using hb
    have hJl : J < (w.setCell ⟨J, 3, none⟩ (.int .u8 y)).heap.size := (Array.getElem?_eq_some_iff.1 hJ).1
    have HK := Lib.hid hK
    clear hK j3 f3
    generalize w.setCell ⟨J, 3, none⟩ (.int .u8 y) = W at *
    have jc := cell_of_row _ _ 1 _ _ _ hJ
    have j2 := cell_of_row _ _ 2 _ _ _ hJ
    simp only [List.getElem?_toArray, List.getElem?_cons_zero, List.getElem?_cons_succ] at jc j2
    have HSW := Lib.hid hS
    have HBW := Lib.hid hB
    have HJ := Lib.hid hJ
    clear hS hB hJ
    go_region_law
      ((refine step_append_lies _ (by rfl) (.tmp 20) (.tmp 27) 37 (by rfl) base 195 i0 _ 2 32 Tryf.underlying37 hi hz0 hz1 hz2 rfl (by omega) vb bs.length (cellsB bs) (by rfl) ((HBW.out.alloc _).drew) ⟨W.heap.size, 0, none⟩ 1 1 [.slice (some ⟨db, dof, none⟩) N c, .int .u32 L] (by rfl) (by rfl) (World.news_of_block (cs := #[.slice (some ⟨db, dof, none⟩) N c, .int .u32 L]) (t := 195) (fr := (0, 0)) (heap_alloc_new W _)) (by simp [Value.oneCell']) (by omega) h1 h2 (by simp; omega) (W.heap.size + 1) (by simp) ?_; intro gg cap w1 hown1 hgrow hat hlt; have e1 : w1.heap[J]? = some (.cells #[vs, vb, .int .u32 L, .int .u8 y] 40 (0, 0)) := (hgrow.block J (by simp; omega) (fun e => HGE.out e.symm)).trans ((heap_alloc_old W _ hJl).trans HJ.out); have q1 := cell_of_row _ _ 1 _ _ _ e1; have q2 := cell_of_row _ _ 2 _ _ _ e1; have qf1 := frozen_of_row w1 J 1 _ _ e1; have qf2 := frozen_of_row w1 J 2 _ _ e1; have ql := (Array.getElem?_eq_some_iff.1 e1).1; simp only [List.getElem?_toArray, List.getElem?_cons_zero, List.getElem?_cons_succ] at q1 q2; have HE1 := Lib.hid (And.intro e1 (And.intro hown1 (And.intro hgrow hat))); clear e1 hown1 hat))
    all_goals
      go_wp2_with fail
      go_end0
      obtain ⟨c1, c2, c3⟩ := add_close (p := 1) (q := 2) (a := .slice (some ⟨gg, 0, none⟩) (bs.length + 1) cap) (b := .int .u32 (L + N : Nat)) hne (Or.inr rfl) (by decide) HK.out HBW.out HSW.out HE1.out.2.2.1 HE1.out.2.1
      have e2 := heap_setCell_same _ _ 2 _ _ (.int .u32 (L + N : Nat)) (heap_setCell_same _ _ 1 _ _ (.slice (some ⟨gg, 0, none⟩) (bs.length + 1) cap) HE1.out.1)
      exact ⟨rfl, ⟨hne, _, _, _, e2, c2, by simpa [cellsB] using c1⟩, c3⟩
  · have h00 : N = 0 := by omega
    have jc := cell_of_row _ _ 1 _ _ _ hJ
    have j2 := cell_of_row _ _ 2 _ _ _ hJ
    simp only [List.getElem?_toArray, List.getElem?_cons_zero, List.getElem?_cons_succ] at jc j2
    have HSW := Lib.hid hS
    have HBW := Lib.hid hB
    have HJ := Lib.hid hJ
    clear hS hB hJ
    subst h00
    clear hr
    go_enter Tryf.func21, Tryf.ntmps21
    go_wp2_with fail
    go_region_law
      ((refine step_append_lies _ (by rfl) (.tmp 20) (.tmp 27) 37 (by rfl) base 195 i0 _ 2 32 Tryf.underlying37 hi hz0 hz1 hz2 rfl (by omega) vb bs.length (cellsB bs) (by rfl) ((HBW.out.alloc _).drew) ⟨w.heap.size, 0, none⟩ 1 1 [.slice da 0 c, .int .u32 L] (by rfl) (by rfl) (World.news_of_block (cs := #[.slice da 0 c, .int .u32 L]) (t := 195) (fr := (0, 0)) (heap_alloc_new w _)) (by simp [Value.oneCell']) (by omega) h1 h2 (by simp; omega) (w.heap.size + 1) (by simp) ?_; intro gg cap w1 hown1 hgrow hat hlt; have e1 : w1.heap[J]? = some (.cells #[vs, vb, .int .u32 L, .int .u8 lb] 40 (0, 0)) := (hgrow.block J (by simp; omega) (fun e => HGE.out e.symm)).trans ((heap_alloc_old w _ hJl).trans HJ.out); have q1 := cell_of_row _ _ 1 _ _ _ e1; have q2 := cell_of_row _ _ 2 _ _ _ e1; have qf1 := frozen_of_row w1 J 1 _ _ e1; have qf2 := frozen_of_row w1 J 2 _ _ e1; have ql := (Array.getElem?_eq_some_iff.1 e1).1; simp only [List.getElem?_toArray, List.getElem?_cons_zero, List.getElem?_cons_succ] at q1 q2; have HE1 := Lib.hid (And.intro e1 (And.intro hown1 (And.intro hgrow hat))); clear e1 hown1 hat))
    all_goals
      go_wp2_with fail
      go_end0
      obtain ⟨c1, c2, c3⟩ := add_close (p := 1) (q := 2) (a := .slice (some ⟨gg, 0, none⟩) (bs.length + 1) cap) (b := .int .u32 (L + 0 : Nat)) hne (Or.inr rfl) (by decide) (JKept.refl base J w) HBW.out HSW.out HE1.out.2.2.1 HE1.out.2.1
      have e2 := heap_setCell_same _ _ 2 _ _ (.int .u32 (L + 0 : Nat)) (heap_setCell_same _ _ 1 _ _ (.slice (some ⟨gg, 0, none⟩) (bs.length + 1) cap) HE1.out.1)
      exact ⟨rfl, ⟨hne, _, _, _, e2, c2, by simpa [cellsB] using c1⟩, c3⟩
end Go.Proofs.YtdoakedpkjlipaaFmt
