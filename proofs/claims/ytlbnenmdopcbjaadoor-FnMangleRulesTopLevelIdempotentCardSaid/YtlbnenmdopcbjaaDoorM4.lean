/- zzBuildRules: the rules made, the places kept. -/
import Derived.Test.YtlbnenmdopcbjaaDoorM2
import Derived.Deep.CutRange
namespace Go.Proofs.YtlbnenmdopcbjaaDoor
open Go.RowKit

theorem int_info : (Tryd.prog.info? 3).map (fun i => (i.zero, i.size, i.bytes)) = some (some (.int .i64 0), 1, 8) := by kernel_rfl
/-- What a round makes, its numbers: kind, name, how many rules inside. -/
structure In3 where
  K : Nat → Int
  T : Nat → Int
  C : Nat → Int
  nt : Nat
  nc : Nat
def In3.kd (x : In3) (i : Nat) : Nat := (x.K i % 3).toNat
def In3.tk (x : In3) (i : Nat) : Nat := if i < x.nt then (x.T i % 8).toNat else 7
def In3.cn (x : In3) (i : Nat) : Nat := if i < x.nc then (x.C i % 3).toNat else 0
abbrev newR (x : In3) (k b : Nat) : RD := ⟨x.kd k, x.tk k, if x.kd k = 1 then x.cn k else 0, b, k⟩
/-- The rules made so far: each of its kind, at its place. -/
def MadeOf (x : In3) (k : Nat) (rs : List RD) : Prop := rs.length = k ∧ ∀ i (h : i < rs.length), rs[i].kd = x.kd i ∧ rs[i].tk = x.tk i ∧ rs[i].cn = (if x.kd i = 1 then x.cn i else 0) ∧ rs[i].loc = i
theorem MadeOf.snoc {x : In3} {k : Nat} {rs : List RD} (h : MadeOf x k rs) (b : Nat) : MadeOf x (k + 1) (rs ++ [newR x k b]) := by
  obtain ⟨h1, h2⟩ := h
  refine ⟨by simp [h1], fun i hi => ?_⟩
  by_cases hl : i < rs.length
  · rw [List.getElem_append_left hl]; exact h2 i hl
  · have : i = k := by simp at hi; omega
    subst this
    rw [List.getElem_append_right (by omega)]
    simp [h1]
def intsV (zs : List Int) : List Value := zs.map (Value.int .i64)

theorem owns_lt {w : World} {base : Nat} {e : TypeId} {size g n cap : Nat} {xs : List Value} (h : w.ownsRow base e size (.slice (some ⟨g, 0, none⟩) n cap) n xs) : g < w.heap.size := by
  rcases h.2 with ⟨h', _⟩ | ⟨g', cap', cur, h', _, hg, _⟩
  · cases h'
  · simp only [Value.slice.injEq, Option.some.injEq, Addr.mk.injEq, and_true, true_and] at h'
    obtain ⟨rfl, rfl⟩ := h'
    exact (Array.getElem?_eq_some_iff.1 hg).1
theorem owns_block {w w' : World} {base : Nat} {e : TypeId} {size g n cap : Nat} {xs : List Value} (h : w.ownsRow base e size (.slice (some ⟨g, 0, none⟩) n cap) n xs) (hb : w'.heap[g]? = w.heap[g]?) : w'.ownsRow base e size (.slice (some ⟨g, 0, none⟩) n cap) n xs := by
  refine ⟨h.1, ?_⟩
  rcases h.2 with ⟨h', _⟩ | ⟨g', cap', cur, h', h1, hg, h2⟩
  · cases h'
  · have h3 := h'
    simp only [Value.slice.injEq, Option.some.injEq, Addr.mk.injEq, and_true, true_and] at h'
    obtain ⟨rfl, rfl⟩ := h'
    exact Or.inr ⟨_, _, cur, h3, h1, hb.trans hg, h2⟩
theorem owns_below {w w' : World} {base : Nat} {e : TypeId} {size n : Nat} {v : Value} {xs : List Value} (h : w.ownsRow base e size v n xs) (hb : Below w.heap.size w w') : w'.ownsRow base e size v n xs := by
  refine ⟨h.1, ?_⟩
  rcases h.2 with h' | ⟨g', cap', cur, h', h1, hg, h2⟩
  · exact Or.inl h'
  · exact Or.inr ⟨g', cap', cur, h', h1, (hb.block _ (Array.getElem?_eq_some_iff.1 hg).1).trans hg, h2⟩
theorem owns_ge {w : World} {base : Nat} {e : TypeId} {size n : Nat} {v : Value} {xs : List Value} (h : w.ownsRow base e size v n xs) : ∀ k, v.ownBlock = some k → base ≤ k := by
  intro k hk
  rcases h.2 with ⟨rfl, _⟩ | ⟨g', cap', cur, rfl, h1, _⟩
  · cases hk
  · cases hk; exact h1
theorem owns_form {w : World} {base : Nat} {e : TypeId} {size n : Nat} {v : Value} {xs : List Value} (h : w.ownsRow base e size v n xs) : ∃ a c, v = .slice a n c := by
  rcases h.2 with ⟨rfl, rfl⟩ | ⟨g', cap', cur, rfl, _⟩
  · exact ⟨none, 0, rfl⟩
  · exact ⟨_, _, rfl⟩
/-- What holds at each round's head. -/
def Built (x : In3) (n : Nat) (w : World) (B2 : Nat) (vr vw i : Value) (wr : World) : Prop := ∃ (k : Nat) (rs : List RD), k ≤ n ∧ i = .int .i64 k ∧ vr = .slice (some ⟨w.heap.size, 0, none⟩) k n ∧ MadeOf x k rs ∧
  wr.ownsRow w.heap.size 37 2 (.slice (some ⟨w.heap.size, 0, none⟩) k n) k (cellsR rs) ∧ (∀ r ∈ rs, r.ok wr ∧ r.b ≠ w.heap.size ∧ r.b ≠ B2) ∧
  ∃ m : Nat, ((rs.filter RD.keep).map RD.loc).length = m ∧ vw = .slice (some ⟨B2, 0, none⟩) m n ∧ wr.ownsRow w.heap.size 3 1 (.slice (some ⟨B2, 0, none⟩) m n) m (intsV ((rs.filter RD.keep).map RD.loc)) ∧ B2 < wr.heap.size ∧ Below w.heap.size w wr

/-- What a round leaves: the rule appended. -/
structure Step (x : In3) (n : Nat) (w : World) (B2 k m b3 : Nat) (rs : List RD) (wr w3 w4 : World) : Prop where
  own : w4.ownsRow w.heap.size 37 2 (.slice (some ⟨w.heap.size, 0, none⟩) (k + 1) n) (k + 1) (cellsR (rs ++ [(newR x k b3)]))
  want : w4.ownsRow w.heap.size 3 1 (.slice (some ⟨B2, 0, none⟩) m n) m (intsV ((rs.filter RD.keep).map RD.loc))
  ok : ∀ r ∈ rs ++ [(newR x k b3)], r.ok w4 ∧ r.b ≠ w.heap.size ∧ r.b ≠ B2
  lt : B2 < w4.heap.size
  bel : Below w.heap.size w w4

theorem step_of {x : In3} {n : Nat} {w : World} {B2 k m b3 : Nat} {rs : List RD} {wr w3 w4 : World} {o1 : Obj} (hrs : ∀ r ∈ rs, r.ok wr ∧ r.b ≠ w.heap.size ∧ r.b ≠ B2) (hb : Below w.heap.size w wr) (hB2 : B2 < wr.heap.size) (hB1 : w.heap.size < B2)
    (hownw : wr.ownsRow w.heap.size 3 1 (.slice (some ⟨B2, 0, none⟩) m n) m (intsV ((rs.filter RD.keep).map RD.loc)))
    (hr : RD.ok (newR x k b3) w3) (hge : wr.heap.size ≤ b3) (hb3 : Below wr.heap.size wr w3) (hg : (w3.alloc o1).grownBy w4 (some w.heap.size))
    (hown : w4.ownsRow w.heap.size 37 2 (.slice (some ⟨w.heap.size, 0, none⟩) (k + 1) n) (k + 1) (cellsR rs ++ [RD.data (newR x k b3), .int .i32 k])) :
    Step x n w B2 k m b3 rs wr w3 w4 := by
  have hs3 := hb3.size
  have h4 : ∀ j, j < w3.heap.size → j ≠ w.heap.size → w4.heap[j]? = w3.heap[j]? := fun j hj hne => by
    rw [hg.block j (by simp; omega) (fun h => hne (Option.some.inj h)), heap_alloc_old _ _ hj]
  have h43 : ∀ j, j < wr.heap.size → j ≠ w.heap.size → w4.heap[j]? = wr.heap[j]? := fun j hj hne => by
    rw [h4 j (by omega) hne, hb3.block j hj]
  have hsz := hg.size
  simp at hsz
  have hbr := RD.ok_lt hr
  refine ⟨?_, owns_block hownw (h43 B2 hB2 (by omega)), ?_, by omega, ?_⟩
  · rw [cellsR_append]; exact hown
  · intro r hmem
    rcases List.mem_append.1 hmem with h | h
    · obtain ⟨a1, a2, a3⟩ := hrs r h
      exact ⟨RD.ok_block a1 (h43 _ (RD.ok_lt a1) a2), a2, a3⟩
    · rw [List.mem_singleton] at h
      subst h
      exact ⟨RD.ok_block hr (h4 _ hbr (by show b3 ≠ _; omega)), by show b3 ≠ _; omega, by show b3 ≠ _; omega⟩
  · exact (((hb.trans (hb3.mono hb.size)).alloc (hb.trans (hb3.mono hb.size)).size _).grown hg (by simp; have := hb.size; omega) (fun j h => by cases h; exact Nat.le_refl _))

theorem filter_snoc (rs : List RD) (r : RD) : (rs ++ [r]).filter RD.keep = rs.filter RD.keep ++ (if r.keep then [r] else []) := by
  rw [List.filter_append]
  congr 1
  cases h : r.keep <;> simp [h]
theorem built_drop {x : In3} {n : Nat} {w : World} {B2 k m b3 : Nat} {rs : List RD} {wr w3 w4 : World} (hlt : k < n) (hmade : MadeOf x k rs) (hm : ((rs.filter RD.keep).map RD.loc).length = m) (h : Step x n w B2 k m b3 rs wr w3 w4)
    (hk : (newR x k b3).keep = false) : Built x n w B2 (.slice (some ⟨w.heap.size, 0, none⟩) (k + 1) n) (.slice (some ⟨B2, 0, none⟩) m n) (.int .i64 ((k : Int) + 1)) w4 := by
  have e : (rs ++ [(newR x k b3)]).filter RD.keep = rs.filter RD.keep := by rw [filter_snoc, hk]; simp
  refine ⟨k + 1, _, hlt, by go_num, rfl, hmade.snoc b3, h.own, h.ok, m, by rw [e]; exact hm, rfl, by rw [e]; exact h.want, h.lt, h.bel⟩
theorem built_keep {x : In3} {n : Nat} {w : World} {B2 k m b3 : Nat} {rs : List RD} {wr w3 w4 w5 : World} {o2 : Obj} (hlt : k < n) (hB1 : w.heap.size < B2) (hmade : MadeOf x k rs) (hm : ((rs.filter RD.keep).map RD.loc).length = m) (h : Step x n w B2 k m b3 rs wr w3 w4)
    (hk : (newR x k b3).keep = true) (hg : (w4.alloc o2).grownBy w5 (some B2))
    (hown : w5.ownsRow w.heap.size 3 1 (.slice (some ⟨B2, 0, none⟩) (m + 1) n) (m + 1) (intsV ((rs.filter RD.keep).map RD.loc) ++ [.int .i64 k])) :
    Built x n w B2 (.slice (some ⟨w.heap.size, 0, none⟩) (k + 1) n) (.slice (some ⟨B2, 0, none⟩) (m + 1) n) (.int .i64 ((k : Int) + 1)) w5 := by
  have e : (rs ++ [(newR x k b3)]).filter RD.keep = rs.filter RD.keep ++ [(newR x k b3)] := by rw [filter_snoc, hk]; simp
  have h5 : ∀ j, j < w4.heap.size → j ≠ B2 → w5.heap[j]? = w4.heap[j]? := fun j hj hne => by
    rw [hg.block j (by simp; omega) (fun h => hne (Option.some.inj h)), heap_alloc_old _ _ hj]
  have hsz := hg.size
  simp at hsz
  have hlt4 := h.lt
  refine ⟨k + 1, _, hlt, by go_num, rfl, hmade.snoc b3, owns_block h.own (h5 _ (by omega) (by omega)), fun r hr => ?_, m + 1, by rw [e, List.map_append, List.length_append, hm]; rfl, rfl, ?_, by omega, ?_⟩
  · obtain ⟨a1, a2, a3⟩ := h.ok r hr
    exact ⟨RD.ok_block a1 (h5 _ (RD.ok_lt a1) a3), a2, a3⟩
  · rw [e, List.map_append]
    unfold intsV at hown ⊢
    rw [List.map_append]
    exact hown
  · exact (h.bel.alloc h.bel.size _).grown hg (by simp; have := h.bel.size; omega) (fun j hj => by cases hj; omega)
theorem one_new (w : World) (B : Nat) (hB : w.heap.size = B) (x : Value) (T : TypeId) (fr : Nat × Nat) : ∀ j u, ([x] : List Value)[j]? = some u → (w.alloc (.cells #[x] T fr)).cell? ((⟨B, 0, none⟩ : Addr).add j) = some u := by
  intro j u h
  subst hB
  have e := heap_alloc_new w (.cells #[x] T fr)
  have ha : (⟨w.heap.size, 0, none⟩ : Addr).add j = ⟨w.heap.size, j, none⟩ := by unfold Addr.add; split <;> simp_all
  rw [ha, cell_of_row _ _ _ _ _ _ e]
  simpa [← Array.getElem?_toList] using h
theorem one_one (x : Value) (hx : x.oneCell' = true) : ∀ u ∈ ([x] : List Value), u.oneCell' = true := by
  intro u hu
  simp at hu
  subst hu
  exact hx

set_option maxRecDepth 100000 in
set_option maxHeartbeats 1000000 in
theorem build_any (x : In3) (n ck ct cc : Nat) (ka ta ca : Option Addr) (w : World) (hk : RowAt w ka n (intAt .u8 x.K)) (ht : RowAt w ta x.nt (intAt .u8 x.T)) (hc : RowAt w ca x.nc (intAt .u8 x.C))
    (hK : ∀ i, i < n → 0 ≤ x.K i ∧ x.K i ≤ 255) (hT : ∀ i, i < x.nt → 0 ≤ x.T i ∧ x.T i ≤ 255) (hC : ∀ i, i < x.nc → 0 ≤ x.C i ∧ x.C i ≤ 255) (hn : n ≤ 1048576) (hnt : x.nt ≤ 1048576) (hnc : x.nc ≤ 1048576) :
    Calls Tryd.prog 6 #[.slice ka n ck, .slice ta x.nt ct, .slice ca x.nc cc] w fun e w' => ∃ rs a1 c1 a2 c2 m, e = .returned (.tuple #[.slice a1 n c1, .slice a2 m c2]) ∧ MadeOf x n rs ∧ Rules w' a1 rs ∧ ((rs.filter RD.keep).map RD.loc).length = m ∧ RowAt w' a2 m (fun i => .int .i64 (((rs.filter RD.keep).map RD.loc).getD i 0)) ∧ Below w.heap.size w w' := by
  obtain ⟨i0, hi, hz0, hz1, hz2⟩ := info_parts rule_info
  obtain ⟨j0, hj, hy0, hy1, hy2⟩ := info_parts int_info
  have HK := Lib.hid hk
  have HT := Lib.hid ht
  have HC := Lib.hid hc
  have BK := Lib.hid hK
  have BT := Lib.hid hT
  have BC := Lib.hid hC
  clear hk ht hc hK hT hC
  obtain ⟨nt, hnt2⟩ : ∃ nt, x.nt = nt := ⟨_, rfl⟩
  obtain ⟨nc, hnc2⟩ : ∃ nc, x.nc = nc := ⟨_, rfl⟩
  rw [hnt2] at HT BT hnt ⊢
  rw [hnc2] at HC BC hnc ⊢
  have HNT := Lib.hid hnt2
  have HNC := Lib.hid hnc2
  clear hnt2 hnc2
  go_enter Tryd.func6, Tryd.ntmps6
  go_wp2_with (first
    | (at_make; refine wpList_make_own _ rfl _ _ 24 rfl w.heap.size 37 i0 _ 2 Tryd.underlying24 hi hz0 hz1 .i64 .i64 _ n rfl rfl (by rfl) (by rw [hz2]; omega) (by unfold maxLen; omega) (Nat.le_refl _) ?_; intro w1 hown1 hg1)
    | (at_make; refine wpList_make_own _ rfl _ _ 25 rfl w.heap.size 3 j0 _ 1 Tryd.underlying25 hj hy0 hy1 .i64 .i64 _ n rfl rfl (by rfl) (by rw [hy2]; omega) (by unfold maxLen; omega) hg1.size ?_; intro w2 hown2 hg2))
  have hb2 : Below w.heap.size w w2 := ((Below.refl _ _).grown hg1 (Nat.le_refl _) (fun k h => by cases h)).grown hg2 hg1.size (fun k h => by cases h)
  have hlt1 : w.heap.size < w1.heap.size := owns_lt hown1
  have hlt2 : w1.heap.size < w2.heap.size := owns_lt hown2
  have hown1' := owns_block hown1 (hg2.block _ hlt1 (fun h => by cases h))
  have HG := Lib.hid (And.intro hlt1 hlt2)
  clear hg1 hg2 hown1 hlt1 hlt2
  generalize hB2 : w1.heap.size = B2 at *
  clear hB2
  go_loopw [9, 10, 11] (fun vr vw i wr => Built x n w B2 vr vw i wr) (fun _ _ i _ => n - (intOf i).toNat)
  case atStart =>
    exact ⟨0, [], Nat.zero_le _, rfl, rfl, ⟨rfl, fun i h => absurd h (Nat.not_lt_zero i)⟩, hown1', fun r h => (by cases h), 0, rfl, rfl, hown2, HG.out.2, hb2⟩
  case round =>
    obtain ⟨k, rs, hk, rfl, rfl, hmade, hown, hrs, m, hm, rfl, hownw, hB2, hb⟩ := hrel
    obtain ⟨W0, hW0⟩ : ∃ W0, W0 = wr := ⟨_, rfl⟩
    subst hW0
    by_cases hlt : k < n
    · obtain ⟨b, o, ha, hbl, h2⟩ := HK.out.blk (by omega)
      subst ha
      have hc0 := (hb.cell (p := ⟨b, o + k, none⟩) hbl).trans (h2 k hlt)
      simp only [intAt] at hc0
      have bK := BK.out k hlt
      clear h2
      have HB := Lib.hid hb
      have HO := Lib.hid (And.intro hown hownw)
      have HR := Lib.hid (And.intro hmade hrs)
      have HM := Lib.hid hm
      have HB2 := Lib.hid hB2
      clear hb hown hownw hmade hrs hm hB2
      go_upto_if 30 with (fail)
      go_cut [12] from 22 to 98 (fun t wx => t = .int .u8 (x.tk k) ∧ W0 = wx)
      case first =>
        by_cases hkt : k < nt
        · obtain ⟨b2, o2, ha2, hbl2, h3⟩ := HT.out.blk (by omega)
          subst ha2
          have hc2 := (HB.out.cell (p := ⟨b2, o2 + k, none⟩) hbl2).trans (h3 k hkt)
          simp only [intAt] at hc2
          have bT := BT.out k hkt
          have htk := Lib.hid (show (x.tk k : Int) = x.T k % 8 by
            unfold In3.tk
            rw [HNT.out, if_pos hkt]
            omega)
          clear h3
          go_wp2_with fail
          go_meet
          case rel => exact ⟨by rw [htk.out], rfl⟩
        · have htk := Lib.hid (show x.tk k = 7 by
            unfold In3.tk
            rw [HNT.out, if_neg hkt])
          go_wp2_with fail
          go_meet
          case rel => exact ⟨by rw [htk.out]; rfl, rfl⟩
      case rest =>
        obtain ⟨rfl, rfl⟩ := hcut
        go_upto_if 39 with (fail)
        go_cut [13] from 22 to 98 (fun t wx' => t = .int .i64 (x.cn k) ∧ W0 = wx')
        case first =>
          by_cases hkt : k < nc
          · obtain ⟨b2, o2, ha2, hbl2, h3⟩ := HC.out.blk (by omega)
            subst ha2
            have hc2 := (HB.out.cell (p := ⟨b2, o2 + k, none⟩) hbl2).trans (h3 k hkt)
            simp only [intAt] at hc2
            have bC := BC.out k hkt
            have htk := Lib.hid (show (x.cn k : Int) = x.C k % 3 by
              unfold In3.cn
              rw [HNC.out, if_pos hkt]
              omega)
            clear h3
            go_wp2_with fail
            go_meet
            case rel => exact ⟨by rw [htk.out], rfl⟩
          · have htk := Lib.hid (show x.cn k = 0 by
              unfold In3.cn
              rw [HNC.out, if_neg hkt])
            go_wp2_with fail
            go_meet
            case rel => exact ⟨by rw [htk.out]; rfl, rfl⟩
        case rest =>
          obtain ⟨rfl, rfl⟩ := hcut
          have hcn2 : x.cn k ≤ 2 := by
            unfold In3.cn
            split
            · have := Int.emod_lt_of_pos (x.C k) (show (0 : Int) < 3 by omega); have := Int.emod_nonneg (x.C k) (show (3 : Int) ≠ 0 by omega); omega
            · omega
          have htk8 : x.tk k < 8 := by
            unfold In3.tk
            split
            · have := Int.emod_lt_of_pos (x.T k) (show (0 : Int) < 8 by omega); have := Int.emod_nonneg (x.T k) (show (8 : Int) ≠ 0 by omega); omega
            · omega
          have hkd3 : x.K k % 3 = 0 ∨ x.K k % 3 = 1 ∨ x.K k % 3 = 2 := by omega
          have hwk : IntKind.i32.wrap (k : Int) = k := by rw [IntKind.wrap_i32]; omega
          have hmn : m + 1 ≤ n := by
            have a1 := List.length_filter_le RD.keep rs
            have a2 := HM.out
            have a3 := HR.out.1.1
            rw [List.length_map] at a2
            omega
          have HB1 := Lib.hid (Nat.lt_trans HG.out.1 HB2.out)
          rcases hkd3 with hkd | hkd | hkd
          · have hkd' := Lib.hid (show x.kd k = 0 by unfold In3.kd; omega)
            have HKP := Lib.hid (fun b3 => (show (newR x k b3).keep = true by simp [RD.keep, hkd'.out]))
            as_aux_lemma =>
              go_wp2_with (first | (go_at_call 11; refine (comment_any _ _ _).mono ?_; rintro e w3 ⟨b3, rfl, hrow3, hlt3, hb3⟩; have H3 := Lib.hid (And.intro hrow3 (And.intro hlt3 hb3)); clear hrow3 hlt3 hb3) | (at_builtin; refine wpList_append_fits _ rfl (.tmp 59) (.tmp 63) 24 rfl w.heap.size 37 i0 2 Tryd.underlying24 hi hz1 w.heap.size k n _ rfl ((owns_block HO.out.1 (H3.out.2.2.block _ HB1.out)).alloc _) ⟨w3.heap.size, 0, none⟩ 1 1 [.iface 86 (.pointer (some ⟨b3, 0, none⟩)), .int .i32 k] rfl rfl (new_cells _ _ rfl _ _ _ _) (two_one _ _ rfl rfl) hlt ?_; intro w4 hown4 hg4; have H4 := Lib.hid (step_of HR.out.2 HB.out HB2.out HG.out.1 HO.out.2 (by unfold RD.ok newR; rw [hkd'.out, if_pos rfl]; exact ⟨_, H3.out.1⟩) H3.out.2.1 H3.out.2.2 hg4 (by rw [show (newR x k b3).data = .iface 86 (.pointer (some ⟨b3, 0, none⟩)) by unfold RD.data newR; rw [hkd'.out]; rfl]; exact hown4)); clear hown4 hg4) | (at_builtin; refine wpList_append_fits _ rfl (.tmp 65) (.tmp 67) 25 rfl w.heap.size 3 j0 1 Tryd.underlying25 hj hy1 B2 m n _ rfl (H4.out.want.alloc _) ⟨w4.heap.size, 0, none⟩ 1 1 [.int .i64 k] rfl rfl (one_new _ _ rfl _ _ _) (one_one _ rfl) hmn ?_; intro w5 hown5 hg5; have H5 := Lib.hid (built_keep hlt HG.out.1 HR.out.1 HM.out H4.out (HKP.out _) hg5 hown5); clear hown5 hg5) | fail)
              exact ⟨H5.out, by simp [intOf]; omega⟩
          · have hkd' := Lib.hid (show x.kd k = 1 by unfold In3.kd; omega)
            as_aux_lemma =>
              go_wp2_with fail
              have HKD := Lib.hid hkd
              clear hkd
              go_loopw [14, 15] (fun v i wx => ∃ (j : Nat) (xs : List Value), j ≤ x.cn k ∧ i = .int .i64 j ∧ wx.ownsRow W0.heap.size 37 2 v j xs ∧ Below W0.heap.size W0 wx) (fun _ i _ => x.cn k - (intOf i).toNat)
              case atStart => exact ⟨0, [], Nat.zero_le _, rfl, ⟨rfl, Or.inl ⟨rfl, rfl⟩⟩, Below.refl _ _⟩
              case round =>
                obtain ⟨j, xs, hj2, rfl, hownb, hbb⟩ := hrel
                have HBB := Lib.hid hbb
                have HOB := Lib.hid hownb
                clear hbb hownb
                by_cases hjl : j < x.cn k
                · have hjm1 : j + 1 ≤ maxLen := by unfold maxLen; omega
                  have hjm2 : (j + 1) * 24 ≤ 140737488355328 := by omega
                  go_wp2_with (first | (go_at_call 11; refine (comment_any _ _ _).mono ?_; rintro e w3 ⟨b3, rfl, hrow3, hlt3, hb3⟩; have H3 := Lib.hid (And.intro (HBB.out.trans (hb3.mono HBB.out.size)) (owns_below HOB.out hb3)); clear hrow3 hlt3 hb3) | (at_builtin; refine wpList_append_own _ rfl (.tmp 76) (.tmp 78) 24 rfl W0.heap.size 37 i0 _ 2 24 Tryd.underlying24 hi hz0 hz1 hz2 rfl (by decide) _ j xs rfl (H3.out.2.alloc _) ⟨w3.heap.size, 0, none⟩ 1 1 [.iface 86 (.pointer (some ⟨b3, 0, none⟩)), .int .i32 (-1)] rfl rfl (new_cells _ _ rfl _ _ _ _) (two_one _ _ rfl rfl) hjm1 hjm2 (by simp; exact Nat.le_succ_of_le H3.out.1.size) ?_; intro v4 w4 hown4 hg4 hn4; clear hn4; have H4 := Lib.hid (And.intro hown4 hg4); clear hown4 hg4) | fail)
                  exact ⟨⟨j + 1, _, hjl, by go_num, H4.out.1, (H3.out.1.alloc H3.out.1.size _).grown H4.out.2 (by simp; exact Nat.le_succ_of_le H3.out.1.size) (owns_ge HOB.out)⟩, by simp [intOf]; omega⟩
                · obtain rfl : j = x.cn k := by omega
                  obtain ⟨a3, c3, rfl⟩ := owns_form HOB.out
                  have HKN := Lib.hid (fun b3 => (show (newR x k b3).keep = (decide (0 < x.cn k) || decide (4 ≤ x.tk k)) by simp [RD.keep, hkd'.out]))
                  have HT8 := Lib.hid htk8
                  by_cases hct : 0 < x.cn k ∨ 4 ≤ x.tk k
                  · have HKP := Lib.hid (fun b3 => (show (newR x k b3).keep = true by rw [HKN.out]; simp; exact hct))
                    have hp : ((x.cn k : Int) > 0) ∨ (¬ ((x.cn k : Int) > 0) ∧ (x.tk k : Int) ≥ 4) := by omega
                    rcases hp with hp | ⟨hp, hp2⟩
                    · as_aux_lemma =>
                        go_wp2_with (first | (go_at_call 13; refine (name_any _ _ HT8.out).mono ?_; rintro e w3 ⟨rfl, rfl⟩) | (go_at_call 12; refine (known_any _ _ _ _ _ _).mono ?_; rintro e w3 ⟨b3, rfl, hrow3, hlt3, hb3⟩; have H3 := Lib.hid (And.intro hrow3 (And.intro (Nat.le_trans HBB.out.size hlt3) (HBB.out.trans (hb3.mono HBB.out.size)))); clear hrow3 hlt3 hb3) | (at_builtin; refine wpList_append_fits _ rfl (.tmp 80) (.tmp 87) 24 rfl w.heap.size 37 i0 2 Tryd.underlying24 hi hz1 w.heap.size k n _ rfl ((owns_block HO.out.1 (H3.out.2.2.block _ HB1.out)).alloc _) ⟨w3.heap.size, 0, none⟩ 1 1 [.iface 89 (.pointer (some ⟨b3, 0, none⟩)), .int .i32 k] rfl rfl (new_cells _ _ rfl _ _ _ _) (two_one _ _ rfl rfl) hlt ?_; intro w4 hown4 hg4; have H4 := Lib.hid (step_of HR.out.2 HB.out HB2.out HG.out.1 HO.out.2 (by unfold RD.ok newR; rw [if_neg (by show ¬ x.kd k = 0; rw [hkd'.out]; decide), if_pos hkd'.out]; exact ⟨HT8.out, a3, c3, by rw [if_pos hkd'.out]; exact H3.out.1⟩) H3.out.2.1 H3.out.2.2 hg4 (by rw [show (newR x k b3).data = .iface 89 (.pointer (some ⟨b3, 0, none⟩)) by unfold RD.data newR; rw [hkd'.out]; rfl]; exact hown4)); clear hown4 hg4) | (at_builtin; refine wpList_append_fits _ rfl (.tmp 95) (.tmp 97) 25 rfl w.heap.size 3 j0 1 Tryd.underlying25 hj hy1 B2 m n _ rfl (H4.out.want.alloc _) ⟨w4.heap.size, 0, none⟩ 1 1 [.int .i64 k] rfl rfl (one_new _ _ rfl _ _ _) (one_one _ rfl) hmn ?_; intro w5 hown5 hg5; have H5 := Lib.hid (built_keep hlt HG.out.1 HR.out.1 HM.out H4.out (HKP.out _) hg5 hown5); clear hown5 hg5) | fail)
                        exact ⟨H5.out, by simp [intOf]; omega⟩
                    · as_aux_lemma =>
                        go_wp2_with (first | (go_at_call 13; refine (name_any _ _ HT8.out).mono ?_; rintro e w3 ⟨rfl, rfl⟩) | (go_at_call 12; refine (known_any _ _ _ _ _ _).mono ?_; rintro e w3 ⟨b3, rfl, hrow3, hlt3, hb3⟩; have H3 := Lib.hid (And.intro hrow3 (And.intro (Nat.le_trans HBB.out.size hlt3) (HBB.out.trans (hb3.mono HBB.out.size)))); clear hrow3 hlt3 hb3) | (at_builtin; refine wpList_append_fits _ rfl (.tmp 80) (.tmp 87) 24 rfl w.heap.size 37 i0 2 Tryd.underlying24 hi hz1 w.heap.size k n _ rfl ((owns_block HO.out.1 (H3.out.2.2.block _ HB1.out)).alloc _) ⟨w3.heap.size, 0, none⟩ 1 1 [.iface 89 (.pointer (some ⟨b3, 0, none⟩)), .int .i32 k] rfl rfl (new_cells _ _ rfl _ _ _ _) (two_one _ _ rfl rfl) hlt ?_; intro w4 hown4 hg4; have H4 := Lib.hid (step_of HR.out.2 HB.out HB2.out HG.out.1 HO.out.2 (by unfold RD.ok newR; rw [if_neg (by show ¬ x.kd k = 0; rw [hkd'.out]; decide), if_pos hkd'.out]; exact ⟨HT8.out, a3, c3, by rw [if_pos hkd'.out]; exact H3.out.1⟩) H3.out.2.1 H3.out.2.2 hg4 (by rw [show (newR x k b3).data = .iface 89 (.pointer (some ⟨b3, 0, none⟩)) by unfold RD.data newR; rw [hkd'.out]; rfl]; exact hown4)); clear hown4 hg4) | (at_builtin; refine wpList_append_fits _ rfl (.tmp 95) (.tmp 97) 25 rfl w.heap.size 3 j0 1 Tryd.underlying25 hj hy1 B2 m n _ rfl (H4.out.want.alloc _) ⟨w4.heap.size, 0, none⟩ 1 1 [.int .i64 k] rfl rfl (one_new _ _ rfl _ _ _) (one_one _ rfl) hmn ?_; intro w5 hown5 hg5; have H5 := Lib.hid (built_keep hlt HG.out.1 HR.out.1 HM.out H4.out (HKP.out _) hg5 hown5); clear hown5 hg5) | fail)
                        exact ⟨H5.out, by simp [intOf]; omega⟩
                  · have HKP := Lib.hid (fun b3 => (show (newR x k b3).keep = false by rw [HKN.out]; simp; omega))
                    have hp : ¬ ((x.cn k : Int) > 0) := by omega
                    have hp2 : ¬ ((x.tk k : Int) ≥ 4) := by omega
                    as_aux_lemma =>
                      go_wp2_with (first | (go_at_call 13; refine (name_any _ _ HT8.out).mono ?_; rintro e w3 ⟨rfl, rfl⟩) | (go_at_call 12; refine (known_any _ _ _ _ _ _).mono ?_; rintro e w3 ⟨b3, rfl, hrow3, hlt3, hb3⟩; have H3 := Lib.hid (And.intro hrow3 (And.intro (Nat.le_trans HBB.out.size hlt3) (HBB.out.trans (hb3.mono HBB.out.size)))); clear hrow3 hlt3 hb3) | (at_builtin; refine wpList_append_fits _ rfl (.tmp 80) (.tmp 87) 24 rfl w.heap.size 37 i0 2 Tryd.underlying24 hi hz1 w.heap.size k n _ rfl ((owns_block HO.out.1 (H3.out.2.2.block _ HB1.out)).alloc _) ⟨w3.heap.size, 0, none⟩ 1 1 [.iface 89 (.pointer (some ⟨b3, 0, none⟩)), .int .i32 k] rfl rfl (new_cells _ _ rfl _ _ _ _) (two_one _ _ rfl rfl) hlt ?_; intro w4 hown4 hg4; have H4 := Lib.hid (step_of HR.out.2 HB.out HB2.out HG.out.1 HO.out.2 (by unfold RD.ok newR; rw [if_neg (by show ¬ x.kd k = 0; rw [hkd'.out]; decide), if_pos hkd'.out]; exact ⟨HT8.out, a3, c3, by rw [if_pos hkd'.out]; exact H3.out.1⟩) H3.out.2.1 H3.out.2.2 hg4 (by rw [show (newR x k b3).data = .iface 89 (.pointer (some ⟨b3, 0, none⟩)) by unfold RD.data newR; rw [hkd'.out]; rfl]; exact hown4)); clear hown4 hg4) | fail)
                      exact ⟨built_drop hlt HR.out.1 HM.out H4.out (HKP.out _), by simp [intOf]; omega⟩
          · have hkd' := Lib.hid (show x.kd k = 2 by unfold In3.kd; omega)
            have HKP := Lib.hid (fun b3 => (show (newR x k b3).keep = false by simp [RD.keep, hkd'.out]))
            as_aux_lemma =>
              go_wp2_with (first | (go_at_call 14;  refine (selector_any _ _).mono ?_; rintro e w3 ⟨b3, rfl, hrow3, hlt3, hb3⟩; have H3 := Lib.hid (And.intro hrow3 (And.intro hlt3 hb3)); clear hrow3 hlt3 hb3) | (at_builtin; refine wpList_append_fits _ rfl (.tmp 51) (.tmp 55) 24 rfl w.heap.size 37 i0 2 Tryd.underlying24 hi hz1 w.heap.size k n _ rfl ((owns_block HO.out.1 (H3.out.2.2.block _ HB1.out)).alloc _) ⟨w3.heap.size, 0, none⟩ 1 1 [.iface 93 (.pointer (some ⟨b3, 0, none⟩)), .int .i32 k] rfl rfl (new_cells _ _ rfl _ _ _ _) (two_one _ _ rfl rfl) hlt ?_; intro w4 hown4 hg4; have H4 := Lib.hid (step_of HR.out.2 HB.out HB2.out HG.out.1 HO.out.2 (by unfold RD.ok newR; rw [if_neg (by show ¬ x.kd k = 0; rw [hkd'.out]; decide), if_neg (by show ¬ x.kd k = 1; rw [hkd'.out]; decide)]; exact H3.out.1) H3.out.2.1 H3.out.2.2 hg4 (by rw [show (newR x k b3).data = .iface 93 (.pointer (some ⟨b3, 0, none⟩)) by unfold RD.data newR; rw [hkd'.out]; rfl]; exact hown4)); clear hown4 hg4) | fail)
              exact ⟨built_drop hlt HR.out.1 HM.out H4.out (HKP.out _), by simp [intOf]; omega⟩
    · obtain rfl : k = n := by omega
      have HB := Lib.hid hb
      have HO := Lib.hid (And.intro hown hownw)
      have HR := Lib.hid (And.intro hmade hrs)
      have HM := Lib.hid hm
      clear hb hown hownw hmade hrs hm
      as_aux_lemma =>
        go_wp2
        try rw [Exit.noGoto_ret]
        go_ret2
        refine ⟨rs, _, _, _, _, m, rfl, HR.out.1, ⟨fun h => ⟨_, 0, rfl, fun i hi => ?_⟩, fun r hr => (HR.out.2 r hr).1⟩, HM.out, fun h => ⟨_, 0, rfl, fun i hi => ?_⟩, HB.out⟩
        · rw [HR.out.1.1] at hi
          rw [Nat.zero_add, HO.out.1.cellAt i hi]
          show (cellsR rs)[i]? = some ((cellsR rs).getD i undef)
          rw [List.getD_eq_getElem?_getD, List.getElem?_eq_getElem (by rw [cellsR_length, HR.out.1.1]; exact hi)]
          rfl
        · rw [Nat.zero_add, HO.out.2.cellAt i (by omega)]
          show (intsV _)[i]? = some (.int .i64 _)
          unfold intsV
          rw [List.getElem?_map, List.getD_eq_getElem?_getD, List.getElem?_eq_getElem (by rw [HM.out]; exact hi)]
          rfl
end Go.Proofs.YtlbnenmdopcbjaaDoor
