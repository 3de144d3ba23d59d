/- The second law's walk: mangled twice. -/
import Derived.Test.YtlbnenmdopcbjaaDoorM6
namespace Go.Proofs.YtlbnenmdopcbjaaDoor
open Go.RowKit

theorem zzmangle_twice (p : Option Addr) (a : Option Addr) (n c : Nat) (rs : List RD) (w : World) (hnn : (rs.filter RD.keep).length = n) (hR : Rules w a (rs.filter RD.keep)) (hn : n ≤ 1048576) (hL : LooksUp w) :
    Calls Tryd.prog 8 #[.pointer p, .slice a n c, .bool true] w fun e w' => ∃ a' c', e = .returned (.slice a' n c') ∧ Rules w' a' (rs.filter RD.keep) ∧ Below w.heap.size w w' := by
  refine (zzmangle_any p a n c _ w hnn hR hn hL).mono ?_
  rintro e w' ⟨v, a', c', rfl, rfl, h1, h2⟩
  have e0 : (rs.filter RD.keep).filter RD.keep = rs.filter RD.keep := by rw [List.filter_filter]; simp
  rw [e0] at h1 ⊢
  rw [hnn]
  exact ⟨a', c', rfl, h1, h2⟩

theorem ints_of {w w' : World} {base g m : Nat} {zs : List Int} (hz : zs.length = m) (h : w.ownsRow base 3 1 (.slice (some ⟨g, 0, none⟩) m m) m ((List.range m).map fun i => .int .i64 (zs.getD i 0))) (hb : Below w.heap.size w w') : Ints w' (some ⟨g, 0, none⟩) zs := by
  have h' := owns_below h hb
  rw [← hz] at h'
  unfold Ints
  intro _
  refine ⟨_, 0, rfl, fun i hi => ?_⟩
  rw [Nat.zero_add, h'.cellAt i (by omega)]
  exact range_map_at (fun i => .int .i64 (zs.getD i 0)) _ _ hi
set_option maxRecDepth 100000 in
set_option maxHeartbeats 1000000 in
theorem law22_wf (kindsa : Option Addr) (kindsn kindsc : Nat) (kindsZ : Nat → Int) (toksa : Option Addr) (toksn toksc : Nat) (toksZ : Nat → Int) (innera : Option Addr) (innern innerc : Nat) (innerZ : Nat → Int) (w : World)
    (hk : kindsn ≤ maxLen) (hk2 : RowAt w kindsa kindsn (intAt .u8 kindsZ)) (hk3 : ∀ i, i < kindsn → (Lit.int .u8 (kindsZ i)).wf = true)
    (ht : toksn ≤ maxLen) (ht2 : RowAt w toksa toksn (intAt .u8 toksZ)) (ht3 : ∀ i, i < toksn → (Lit.int .u8 (toksZ i)).wf = true)
    (hi : innern ≤ maxLen) (hi2 : RowAt w innera innern (intAt .u8 innerZ)) (hi3 : ∀ i, i < innern → (Lit.int .u8 (innerZ i)).wf = true) (hL : LooksUp w) :
    Calls Tryd.prog 4 #[.slice kindsa kindsn kindsc, .slice toksa toksn toksc, .slice innera innern innerc] w (LawOk w) := by
  obtain ⟨j0, hj, hy0, hy1, hy2⟩ := info_parts int_info
  have HZ := Lib.hid (zz_FnMangleRulesTopLevelIdempotent kindsa kindsn kindsc kindsZ toksa toksn toksc toksZ innera innern innerc innerZ w hk ht hi)
  have HB := Lib.hid (fun h1 h2 h3 => build_any ⟨kindsZ, toksZ, innerZ, toksn, innern⟩ kindsn kindsc toksc innerc kindsa toksa innera w hk2 ht2 hi2 (fun i h => bounds_u8 (hk3 i h)) (fun i h => bounds_u8 (ht3 i h)) (fun i h => bounds_u8 (hi3 i h)) h1 h2 h3)
  have HL := Lib.hid hL
  clear hk hk2 hk3 ht ht2 ht3 hi hi2 hi3 hL
  go_enter Tryd.func4, Tryd.ntmps4
  go_wp2_with (first
    | (go_at_call 10; refine HZ.out.mono ?_; rintro e wz ⟨b, rfl, hb, rfl⟩; have HB1 := Lib.hid hb; clear hb)
    | (go_at_call 6; have hbt := not_of ‹(!b) = false›; obtain ⟨hn1, hn2, hn3⟩ := HB1.out hbt; refine (HB.out hn1 hn2 hn3).mono ?_; rintro e w1 ⟨rs, a1, c1, a2, c2, m, rfl, hmade, hR, hm, hI, hb⟩; have H1 := Lib.hid (And.intro hmade (And.intro hR (And.intro hm (And.intro hI hb)))); clear hmade hR hm hI hb)
    | (go_at_call 7; refine (parser_any _).mono ?_; rintro e w2 ⟨pb, rfl, hb⟩; have H2 := Lib.hid hb; clear hb)
    | (go_at_call 8; refine (zzmangle_any _ _ _ _ rs _ H1.out.1.1 (H1.out.2.1.below H2.out) hn1 (HL.out.below (H1.out.2.2.2.2.trans (H2.out.mono H1.out.2.2.2.2.size)))).mono ?_; rintro e w3 ⟨v, a3, c3, rfl, rfl, hR, hb⟩; have hm3 : (rs.filter RD.keep).length = m := (by (rw [← H1.out.2.2.1]; simp)); have hmn : m ≤ kindsn := (by rw [← hm3, ← H1.out.1.1]; exact List.length_filter_le RD.keep rs); rw [hm3]; have b12 := H1.out.2.2.2.2.trans (H2.out.mono H1.out.2.2.2.2.size); have H3 := Lib.hid (And.intro hR (b12.trans (hb.mono b12.size))); clear hR hb b12)
    | (at_make; refine wpList_make_full _ rfl _ _ 25 rfl w3.heap.size 3 j0 _ 1 Tryd.underlying25 hj hy0 hy1 .i64 .i64 _ _ m rfl rfl rfl rfl (by rw [hy2]; omega) (by unfold maxLen; omega) (Nat.le_refl _) ?_; intro w4 hown hg; have HO := Lib.hid hown; have HG := Lib.hid hg; clear hown hg)
    | fail)
  · go_ret
    exact ⟨rfl, Below.refl _ _⟩
  · go_ret
    exact ⟨rfl, Below.refl _ _⟩
  have hown := HO.out
  have hg := HG.out
  rw [madeCells_list _ _ rfl, ← mixRow_zero ((List.range m).map fun i => .int .i64 (((rs.filter RD.keep).map RD.loc).getD i 0))] at hown
  have hb0 : Below w3.heap.size w3 w4 := (Below.refl _ _).grown hg (Nat.le_refl _) (fun k h => by cases h)
  have hl := Lib.hid (fun r hr => H1.out.1.locs hn1 r (List.mem_filter.1 hr).1 : ∀ r ∈ rs.filter RD.keep, -2147483648 ≤ r.loc ∧ r.loc ≤ 2147483647)
  clear hg
  have HT := Lib.hid (fun p a n c wx => zzmangle_twice p a n c rs wx)
  generalize rs.filter RD.keep = K at *
  go_loopw [12] (fun i wr => ∃ k : Nat, k ≤ m ∧ i = .int .i64 k ∧ wr.ownsRow w3.heap.size 3 1 (.slice (some ⟨w3.heap.size, 0, none⟩) m m) m (mixRow ((List.range m).map fun i => .int .i64 ((K.map RD.loc).getD i 0)) (.int .i64 0) m k) ∧ Below w3.heap.size w3 wr) (fun i _ => m - (intOf i).toNat)
  case atStart => exact ⟨0, Nat.zero_le _, rfl, hown, hb0⟩
  case round =>
    obtain ⟨k, hk, rfl, hown, hb⟩ := hrel
    by_cases hlt : k < m
    · have hlt' : k < K.length := by omega
      obtain ⟨b, o, ha, hbl, h2⟩ := H3.out.1.row.blk (by omega)
      subst ha
      have hc1 := (hb.cell (p := ⟨b, o + (k * 2 + 1), none⟩) hbl).trans (h2 (k * 2 + 1) (by omega))
      rw [← Nat.add_assoc, (cellsR_get K k hlt').2] at hc1
      clear h2
      have h4 := (hown.cellAt k (by omega)).trans (mixRow_at _ _ _ _ hlt (by simp))
      have h5 := hown.frozenAt k
      have hst := hown.stored k (.int .i64 ((K.map RD.loc).getD k 0))
      rw [mixRow_set _ (.int .i64 0) (.int .i64 ((K.map RD.loc).getD k 0)) m k hlt (by simp) (range_map_at _ _ _ hlt)] at hst
      have e2 : (K.map RD.loc).getD k 0 = K[k].loc := by simp [hlt']
      rw [e2] at hst
      have hl2 := hl.out K[k] (List.getElem_mem _)
      generalize K[k].loc = l at *
      have HS := Lib.hid hst
      have HB2 := Lib.hid hb
      clear hst hb
      go_wp2_with fail
      exact ⟨⟨k + 1, by omega, by go_num, HS.out.1, HB2.out.setCell (by simp) _⟩, by simp [intOf]; omega⟩
    · obtain rfl : k = m := by omega
      rw [mixRow_full _ _ _ (by simp)] at hown
      have HO2 := Lib.hid hown
      have HB2 := Lib.hid (H3.out.2.trans (hb.mono H3.out.2.size))
      have HB3 := Lib.hid hb
      clear hown hb
      go_wp2_with (first
        | (go_at_call 8; go_loud (refine (HT.out _ _ _ _ _ hm3 (H3.out.1.below HB3.out) (Nat.le_trans hmn hn1) (HL.out.below HB2.out)).mono ?_); rintro e w5 ⟨a5, c5, rfl, hR5, hb5⟩; have H5 := Lib.hid (And.intro hR5 hb5); clear hR5 hb5)
        | (go_at_call 9; go_loud (refine (locs_any _ _ _ _ _ K _ hm3 H5.out.1 (ints_of (by rw [List.length_map]; exact hm3) HO2.out H5.out.2) (Nat.le_trans hmn hn1) hl.out).mono ?_); rintro e w6 ⟨rfl, hb6⟩; have H6 := Lib.hid hb6; clear hb6)
        | fail)
      go_ret
      have b13 := HB2.out.trans (H5.out.2.mono HB2.out.size)
      exact ⟨rfl, b13.trans (H6.out.mono b13.size)⟩
end Go.Proofs.YtlbnenmdopcbjaaDoor
