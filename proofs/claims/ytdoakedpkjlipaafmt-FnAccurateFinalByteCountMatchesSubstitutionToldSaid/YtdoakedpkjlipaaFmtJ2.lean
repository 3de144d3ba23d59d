/- The path between chunks; the counting closure. -/
import Derived.Test.YtdoakedpkjlipaaFmtJ1
namespace Go.Proofs.YtdoakedpkjlipaaFmt
open Go.RowKit Go.Extern.Stop Go.Stop Go.Extern Go.Kit
set_option linter.unusedVariables false

/-- The context: its options, their public path. -/
structure CtxAt (w : World) (c o : Nat) (pub : ByteArray) : Prop where
  opt : w.cell? ⟨c, 0, none⟩ = some (.pointer (some ⟨o, 0, none⟩))
  pub : w.cell? ⟨o, 31, none⟩ = some (.string pub)
theorem CtxAt.below {w w' : World} {c o : Nat} {pub : ByteArray} (h : CtxAt w c o pub) (hb : Below w.heap.size w w') : CtxAt w' c o pub :=
  ⟨(hb.cell (block_lt_of_cell h.opt)).trans h.opt, (hb.cell (block_lt_of_cell h.pub)).trans h.pub⟩
def joinB (pub rel : ByteArray) : ByteArray := ⟨(joinL pub.data.toList rel.data.toList).toArray⟩
theorem joinB_list (pub rel : ByteArray) : (joinB pub rel).data.toList = joinL pub.data.toList rel.data.toList := rfl
theorem joinB_size (pub rel : ByteArray) : (joinB pub rel).size ≤ pub.size + 1 + rel.size := by
  have := joinL_le pub.data.toList rel.data.toList
  rw [size_list, size_list] at this
  rw [← size_list, joinB_list]
  exact this

set_option maxRecDepth 100000 in
set_option maxHeartbeats 1000000 in
theorem path_any (F : Interp) (c o : Nat) (pub dir rel : ByteArray) (w : World) (hF : F.told.answers w.tape) (hp : pub.size ≤ 1048576) (hp0 : pub.toList.isEmpty = false) (hr : rel.size ≤ 1048576) (hc : CtxAt w c o pub) :
    Calls Tryf.prog 18 #[.pointer (some ⟨c, 0, none⟩), .string dir, .string rel] w fun e w' => e = .returned (.string (joinB pub rel)) ∧ Below w.heap.size w w' := by
  have H := Lib.hid (join_any F pub rel w hF hp hp0 hr)
  obtain ⟨hc, ho⟩ := hc
  have hc' := block_lt_of_cell hc
  have ho' := block_lt_of_cell ho
  clear hF
  go_enter Tryf.func18, Tryf.ntmps18
  go_wp2_with fail
  refine H.out.mono ?_
  rintro e w1 ⟨rfl, hb⟩
  have HB := Lib.hid hb
  clear hb
  go_wp2_with fail
  go_ret
  exact ⟨rfl, HB.out⟩
theorem cell_off {w : World} {k x y : Nat} {v : Value} (h : k ≠ x) : (w.setCell ⟨k, 0, none⟩ v).cell? ⟨x, y, none⟩ = w.cell? ⟨x, y, none⟩ := World.cell?_setCell_other _ _ _ _ (fun e => h (congrArg Addr.block e))
set_option maxRecDepth 100000 in
set_option maxHeartbeats 1000000 in
theorem closure_any (F : Interp) (c o kb vb db : Nat) (k : Int) (pub dir rel : ByteArray) (w : World) (hF : F.told.answers w.tape) (hp : pub.size ≤ 1048576) (hp0 : pub.toList.isEmpty = false) (hr : rel.size ≤ 1048576) (hc : CtxAt w c o pub)
    (hk : w.heap[kb]? = some (.cells #[.int .i64 k] 3 (0, 0))) (hk0 : 0 ≤ k) (hk1 : k ≤ 1048576) (hv : w.cell? ⟨vb, 0, none⟩ = some (.pointer (some ⟨c, 0, none⟩))) (hd : w.cell? ⟨db, 0, none⟩ = some (.string dir)) (hne : kb ≠ vb ∧ kb ≠ db ∧ kb ≠ c ∧ kb ≠ o) :
    Calls Tryf.prog 17 #[.string rel, .pointer (some ⟨kb, 0, none⟩), .pointer (some ⟨vb, 0, none⟩), .pointer (some ⟨db, 0, none⟩)] w fun e w' => e = .returned (.string (joinB pub rel)) ∧ Below w.heap.size (w.setCell ⟨kb, 0, none⟩ (.int .i64 (k + 1))) w' := by
  obtain ⟨n1, n2, n3, n4⟩ := hne
  have hcw : CtxAt (w.setCell ⟨kb, 0, none⟩ (.int .i64 (k + 1))) c o pub := ⟨by rw [cell_off (by omega)]; exact hc.opt, by rw [cell_off (by omega)]; exact hc.pub⟩
  have H := Lib.hid (path_any F c o pub dir rel (w.setCell ⟨kb, 0, none⟩ (.int .i64 (k + 1))) (by simpa using hF) hp hp0 hr hcw)
  have hkc := cell_of_row _ _ 0 _ _ _ hk
  have hkf : w.frozen? ⟨kb, 0, none⟩ = false := frozen_of_row _ _ _ _ _ hk
  have hkl := (Array.getElem?_eq_some_iff.1 hk).1
  simp only [List.getElem?_toArray, List.getElem?_cons_zero] at hkc
  have v1 : (w.setCell ⟨kb, 0, none⟩ (.int .i64 (k + 1))).cell? ⟨vb, 0, none⟩ = some (.pointer (some ⟨c, 0, none⟩)) := by rw [cell_off (by omega)]; exact hv
  have d1 : (w.setCell ⟨kb, 0, none⟩ (.int .i64 (k + 1))).cell? ⟨db, 0, none⟩ = some (.string dir) := by rw [cell_off (by omega)]; exact hd
  have vl := block_lt_of_cell hv
  have dl := block_lt_of_cell hd
  clear hF hk hc hcw hv hd
  go_enter Tryf.func17, Tryf.ntmps17
  go_wp2_with fail
  refine H.out.mono ?_
  rintro e w1 ⟨rfl, hb⟩
  have HB := Lib.hid hb
  clear hb
  go_wp2_with fail
  go_ret
  exact ⟨rfl, HB.out.mono (by simp)⟩
end Go.Proofs.YtdoakedpkjlipaaFmt
