/- The substitution counted: its bytes, its shifts, its calls. -/
import Derived.Test.YtdoakedpkjlipaaFmtJ10
namespace Go.Proofs.YtdoakedpkjlipaaFmt
open Go.RowKit
set_option linter.unusedVariables false

def CountOk (pub : ByteArray) (R : Nat → ByteArray) (ps : List PD) (w : World) (e : Ending) (w' : World) : Prop :=
  ∃ a cp, e = .returned (.tuple #[.slice a (outOf pub R ps).length cp, .int .i64 ((1 + chunksOf ps : Nat) : Int), .int .i64 (chunksOf ps)]) ∧ RowAt w' a (outOf pub R ps).length (outAt (outOf pub R ps) 0) ∧ Below w.heap.size w w'
theorem tabs_below {w w' : World} (h : Lib.Utf8Tabs 0 1 w) (hb : Below w.heap.size w w') : Lib.Utf8Tabs 0 1 w' := by
  have key : ∀ p v, w.cell? p = some v → w'.cell? p = some v := fun p v h => (hb.cell (block_lt_of_cell h)).trans h
  exact ⟨fun c hc => key _ _ (h.1 c hc), fun i hi => ⟨key _ _ (h.2 i hi).1, key _ _ (h.2 i hi).2⟩⟩
theorem ChunksAt.below {w w' : World} {ca : Option Addr} {m : Nat} {R : Nat → ByteArray} (h : ChunksAt w ca m R) (hb : Below w.heap.size w w') : ChunksAt w' ca m R := fun h0 => by
  obtain ⟨b, o, e, hc⟩ := h h0
  refine ⟨b, o, e, fun j hj r hr => ?_⟩
  have h1 := hc j hj r hr
  have h2 : w.cell? ⟨b, o + j * 22 + r, none⟩ = some ((chunkR (R j))[r]'hr) := by rw [h1]; exact Array.getElem?_eq_getElem hr
  rw [hb.cell (block_lt_of_cell h2)]
  exact h1
theorem Pieces.below {w w' : World} {pa : Option Addr} {n m : Nat} {ps : List PD} (h : Pieces w pa n m ps) (hb : Below w.heap.size w w') : Pieces w' pa n m ps :=
  ⟨h.len, h.row.below hb, fun p hp => by obtain ⟨h1, h2, h3, h4, h5⟩ := h.ok p hp; exact ⟨h1, h2, h3, h4.below hb, h5⟩⟩
theorem own_below {w w' : World} {base : Nat} {e : TypeId} {size n : Nat} {v : Value} {xs : List Value} (h : w.ownsRow base e size v n xs) (hb : Below w.heap.size w w') : w'.ownsRow base e size v n xs := by
  refine ⟨h.1, ?_⟩
  rcases h.2 with h | ⟨g, cap, cur, rfl, h0, hgg, hr⟩
  · exact .inl h
  · exact .inr ⟨g, cap, cur, rfl, h0, (hb.block _ (Array.getElem?_eq_some_iff.1 hgg).1).trans hgg, hr⟩
theorem s8_drew {w8 w1 : World} {B : Nat} {a : Addr} {v : Value} (h : Below B w8 w1 ∧ w1.cell? a = some v) : Below B w8 w1.drew ∧ w1.drew.cell? a = some v := ⟨h.1.drew, h.2⟩
theorem s8_call {w8 w1 w2 : World} {B : Nat} {a : Addr} {v : Value} (h : Below B w8 w1 ∧ w1.cell? a = some v) (hb : Below w1.heap.size w1 w2) (hB : B = w8.heap.size) : Below B w8 w2 ∧ w2.cell? a = some v := ⟨h.1.trans (hb.mono (by rw [hB]; exact h.1.size)), (hb.cell (block_lt_of_cell h.2)).trans h.2⟩
set_option maxRecDepth 100000 in
set_option maxHeartbeats 2000000 in
theorem count_any (F : Stop.Interp) (c o m cc n pc : Nat) (pub dir : ByteArray) (ps : List PD) (pa ca : Option Addr) (R : Nat → ByteArray) (w : World) (hF : F.told.answers w.tape)
    (hp : pub.size ≤ 1048576) (hp0 : pub.toList.isEmpty = false) (hR : ∀ j, j < m → (R j).size ≤ 1048576) (hc : CtxAt w c o pub) (hch : w.cell? ⟨c, 17, none⟩ = some (.slice ca m cc)) (hcs : ChunksAt w ca m R) (hm : m ≤ 1048576)
    (hT : Lib.Utf8Tabs 0 1 w) (h2 : 2 ≤ w.heap.size) (hps : Pieces w pa n m ps) (hpa : pa.isSome = true) (hn : n ≤ 4096) (hout : (outOf pub R ps).length ≤ 1048576) :
    Calls Tryf.prog 14 #[.pointer (some ⟨c, 0, none⟩), .agg #[.slice pa n pc, .slice none 0 0, .slice none 0 0, .int .u32 0, .int .u8 0], .string dir] w (CountOk pub R ps w) := by
  have hb4 : Below w.heap.size w ((((w.alloc (.cells #[.pointer (some ⟨c, 0, none⟩)] 33)).alloc (.cells #[.slice pa n pc, .slice none 0 0, .slice none 0 0, .int .u32 0, .int .u8 0] 42)).alloc (.cells #[.string dir] 9)).alloc (.cells #[.int .i64 0] 3)) :=
    ((((Below.refl _ _).alloc (Nat.le_refl _) _).alloc (by simp) _).alloc (by simp; omega) _).alloc (by simp; omega) _
  have hcl := block_lt_of_cell hc.opt
  have hol := block_lt_of_cell hc.pub
  have H := Lib.hid (fun (w' : World) (hb : Below w.heap.size w w') kb vb db hk hv hd hne => subst_any F c o kb vb db m cc n pc 0 pub dir ps pa ca R w' (by rw [hb.tape]; exact hF) hp hp0 hR (hc.below hb) ((hb.cell (block_lt_of_cell hch)).trans hch) (hcs.below hb) hm hk (Int.le_refl 0) (by decide) hv hd hne (tabs_below hT hb))
  have HPS := Lib.hid hps
  have HB4 := Lib.hid hb4
  clear hF hR hc hch hcs hT hps hb4
  go_enter Tryf.func14, Tryf.ntmps14
  go_wp2_with fail
  refine (H.out _ HB4.out (w.heap.size + 1 + 1 + 1) w.heap.size (w.heap.size + 1 + 1) ?_ ?_ ?_ ?_ ?_ (HPS.out.below HB4.out) hpa hn hout).mono ?_
  · have := heap_alloc_new (((w.alloc (.cells #[.pointer (some ⟨c, 0, none⟩)] 33)).alloc (.cells #[.slice pa n pc, .slice none 0 0, .slice none 0 0, .int .u32 0, .int .u8 0] 42)).alloc (.cells #[.string dir] 9)) (.cells #[.int .i64 0] 3)
    simpa using this
  · have : ((((w.alloc (.cells #[.pointer (some ⟨c, 0, none⟩)] 33)).alloc (.cells #[.slice pa n pc, .slice none 0 0, .slice none 0 0, .int .u32 0, .int .u8 0] 42)).alloc (.cells #[.string dir] 9)).alloc (.cells #[.int .i64 0] 3)).heap[w.heap.size]? = some (.cells #[.pointer (some ⟨c, 0, none⟩)] 33 (0, 0)) := by
      rw [heap_alloc_old _ _ (by simp; omega), heap_alloc_old _ _ (by simp; omega), heap_alloc_old _ _ (by simp)]
      exact heap_alloc_new _ _
    exact cell_of_row _ _ 0 _ _ _ this
  · have : ((((w.alloc (.cells #[.pointer (some ⟨c, 0, none⟩)] 33)).alloc (.cells #[.slice pa n pc, .slice none 0 0, .slice none 0 0, .int .u32 0, .int .u8 0] 42)).alloc (.cells #[.string dir] 9)).alloc (.cells #[.int .i64 0] 3)).heap[w.heap.size + 1 + 1]? = some (.cells #[.string dir] 9 (0, 0)) := by
      rw [heap_alloc_old _ _ (by simp)]
      have := heap_alloc_new ((w.alloc (.cells #[.pointer (some ⟨c, 0, none⟩)] 33)).alloc (.cells #[.slice pa n pc, .slice none 0 0, .slice none 0 0, .int .u32 0, .int .u8 0] 42)) (.cells #[.string dir] 9)
      simpa using this
    exact cell_of_row _ _ 0 _ _ _ this
  · omega
  · omega
  rintro e w5 ⟨vs, vb', lb, a7, c7, rfl, hS, hB, hk, hg⟩
  have hl5 : (bsOf pub R 0 ps).length = n := by rw [bsOf_len, HPS.out.len]
  have hl6 := ssOf_len pub R ps 0
  have hlen := HPS.out.len
  have hgs := hg.size
  simp at hgs
  have kc := cell_of_row _ _ 0 _ _ _ hk
  simp only [List.getElem?_toArray, List.getElem?_cons_zero, Int.zero_add] at kc
  have kl := (Array.getElem?_eq_some_iff.1 hk).1
  have hb5 : Below w.heap.size w w5 := by
    refine HB4.out.trans ⟨hg.os, hg.tape, hg.output, Nat.le_trans (by simp) hg.size, fun k hk => hg.block k (by simp; omega) (fun e => by have := Option.some.inj e; omega)⟩
  obtain ⟨sa, sc, rfl, _, _⟩ := row_of_owns hS
  obtain ⟨ba, bc, rfl, _, _⟩ := row_of_owns hB
  have HSJ := Lib.hid (And.intro hS hB)
  have HB5 := Lib.hid hb5
  have HL5 := Lib.hid hl5
  have HLE := Lib.hid hlen
  clear hS hB hk hg hb5 hl5 hlen
  go_wp2_with fail
  have W8H : ∃ w8 : World, w8 = w5.alloc (.cells #[.slice sa (ssOf pub R 0 ps).length sc, .slice ba (bsOf pub R 0 ps).length bc, .int .u32 (outOf pub R ps).length, .int .u8 lb] 40) := ⟨_, rfl⟩
  obtain ⟨w8, h8⟩ := W8H
  have hd : ∀ w' : World, Below w8.heap.size w8 w' → Calls Tryf.prog 19 #[.pointer (some ⟨w5.heap.size, 0, none⟩)] w' (DoneOk (outOf pub R ps).length (outOf pub R ps) w') := fun w' hb' =>
    done_any _ w5.heap.size _ (ssOf pub R 0 ps) (bsOf pub R 0 ps) (outOf pub R ps) _ ⟨_, _, lb, by rw [hb'.block _ (by rw [h8]; simp), h8]; exact heap_alloc_new _ _, own_below (by rw [h8]; exact HSJ.out.1.alloc _) hb', own_below (by rw [h8]; exact HSJ.out.2.alloc _) hb'⟩ rfl (by omega) (by have := HLE.out; omega) (by rw [HL5.out]; omega)
      (spells_all ps fun p hp => ⟨(HPS.out.ok p hp).2.1, (((HPS.out.ok p hp).2.2.2.1.below HB5.out).below (w' := w8) (by rw [h8]; exact (Below.refl _ _).alloc (Nat.le_refl _) _)).below hb'⟩)
  have HDN := Lib.hid hd
  have hb8 : Below w.heap.size w w8 := by rw [h8]; exact HB5.out.alloc HB5.out.size _
  have k8 : w8.cell? ⟨w.heap.size + 1 + 1 + 1, 0, none⟩ = some (.int .i64 (chunksOf ps)) := by
    rw [h8]; exact (World.cell?_alloc_some _ _ _ (by rw [kc]; rfl)).trans kc
  clear hd kc
  rw [← h8]
  have HB8 := Lib.hid hb8
  clear hb8 h8
  go_region_held3 (fun w' => Below w8.heap.size w8 w' ∧ w'.cell? ⟨w.heap.size + 1 + 1 + 1, 0, none⟩ = some (.int .i64 (chunksOf ps))) (first | exact ⟨(Below.refl _ _).drew, k8⟩ | exact ⟨Below.refl _ _, k8⟩ | exact s8_drew (by assumption) | exact s8_call (by assumption) (by assumption) rfl | assumption) (first | (go_at_call 19; refine (HDN.out _ (‹Below w8.heap.size w8 _ ∧ _›).1).mono ?_; rintro e w9 ⟨a9, c9, rfl, hc9, hr9, hb9⟩))
  have hfin : Below w.heap.size w w9 := HB8.out.trans ((‹Below w8.heap.size w8 _ ∧ _›).1.mono HB8.out.size)
  go_wp2_with fail
  go_ret3
  exact ⟨a9, c9, by simp, hr9, hfin⟩
end Go.Proofs.YtdoakedpkjlipaaFmt
