/- The two laws' walks. -/
import Derived.Test.YtlbnenmdopcbjaaDoorM3
import Derived.Test.YtlbnenmdopcbjaaDoorM4
import Derived.Test.YtlbnenmdopcbjaaDoorZ1
import Derived.OpenShut
namespace Go.Proofs.YtlbnenmdopcbjaaDoor
open Go.RowKit

theorem Rules.below {w w' : World} {a : Option Addr} {rs : List RD} (h : Rules w a rs) (hb : Below w.heap.size w w') : Rules w' a rs := ⟨h.row.below hb, fun r hr => RD.ok_below (h.ok r hr) hb⟩
theorem LooksUp.below {w w' : World} (h : LooksUp w) (hb : Below w.heap.size w w') : LooksUp w' := by
  obtain ⟨mb, h1, h2, h3⟩ := h
  exact ⟨mb, (hb.cell (block_lt_of_cell h1)).trans h1, Nat.lt_of_lt_of_le h2 hb.size, fun t ht w'' hw => h3 t ht w'' (hw.trans (hb.block mb h2))⟩
theorem not_of {b : Bool} (h : (!b) = false) : b = true := by cases b; cases h; rfl
theorem MadeOf.locs {x : In3} {n : Nat} {rs : List RD} (h : MadeOf x n rs) (hn : n ≤ 1048576) : ∀ r ∈ rs, -2147483648 ≤ r.loc ∧ r.loc ≤ 2147483647 := by
  intro r hr
  obtain ⟨i, hi, rfl⟩ := List.getElem_of_mem hr
  have := (h.2 i hi).2.2.2
  have := h.1
  omega

set_option maxRecDepth 100000 in
set_option maxHeartbeats 1000000 in
theorem law9_wf (kindsa : Option Addr) (kindsn kindsc : Nat) (kindsZ : Nat → Int) (toksa : Option Addr) (toksn toksc : Nat) (toksZ : Nat → Int) (innera : Option Addr) (innern innerc : Nat) (innerZ : Nat → Int) (w : World)
    (hk : kindsn ≤ maxLen) (hk2 : RowAt w kindsa kindsn (intAt .u8 kindsZ)) (hk3 : ∀ i, i < kindsn → (Lit.int .u8 (kindsZ i)).wf = true)
    (ht : toksn ≤ maxLen) (ht2 : RowAt w toksa toksn (intAt .u8 toksZ)) (ht3 : ∀ i, i < toksn → (Lit.int .u8 (toksZ i)).wf = true)
    (hi : innern ≤ maxLen) (hi2 : RowAt w innera innern (intAt .u8 innerZ)) (hi3 : ∀ i, i < innern → (Lit.int .u8 (innerZ i)).wf = true) (hL : LooksUp w) :
    Calls Tryd.prog 3 #[.slice kindsa kindsn kindsc, .slice toksa toksn toksc, .slice innera innern innerc] w (LawOk w) := by
  have HZ := Lib.hid (zz_FnMangleRulesTopLevelDropsExactlyEmpty kindsa kindsn kindsc kindsZ toksa toksn toksc toksZ innera innern innerc innerZ w hk ht hi)
  have HB := Lib.hid (fun h1 h2 h3 => build_any ⟨kindsZ, toksZ, innerZ, toksn, innern⟩ kindsn kindsc toksc innerc kindsa toksa innera w hk2 ht2 hi2 (fun i h => bounds_u8 (hk3 i h)) (fun i h => bounds_u8 (ht3 i h)) (fun i h => bounds_u8 (hi3 i h)) h1 h2 h3)
  have HL := Lib.hid hL
  clear hk hk2 hk3 ht ht2 ht3 hi hi2 hi3 hL
  go_enter Tryd.func3, Tryd.ntmps3
  go_wp2_with (first
    | (go_at_call 5; refine HZ.out.mono ?_; rintro e wz ⟨b, rfl, hb, rfl⟩; have HB1 := Lib.hid hb; clear hb)
    | (go_at_call 6; have hbt := not_of ‹(!b) = false›; obtain ⟨hn1, hn2, hn3⟩ := HB1.out hbt; go_loud (refine (HB.out hn1 hn2 hn3).mono ?_); rintro e w1 ⟨rs, a1, c1, a2, c2, m, rfl, hmade, hR, hm, hI, hb⟩; have H1 := Lib.hid (And.intro hmade (And.intro hR (And.intro hm (And.intro hI hb)))); clear hmade hR hm hI hb)
    | (go_at_call 7; refine (parser_any _).mono ?_; rintro e w2 ⟨pb, rfl, hb⟩; have H2 := Lib.hid hb; clear hb)
    | (go_at_call 8; go_loud (refine (zzmangle_any _ _ _ _ rs _ H1.out.1.1 (H1.out.2.1.below H2.out) hn1 (HL.out.below (H1.out.2.2.2.2.trans (H2.out.mono H1.out.2.2.2.2.size)))).mono ?_); rintro e w3 ⟨v, a3, c3, rfl, rfl, hR, hb⟩; have H3 := Lib.hid (And.intro hR hb); clear hR hb; go_loud (have hm3 : (rs.filter RD.keep).length = m := by (rw [← H1.out.2.2.1]; simp)); rw [hm3])
    | (go_at_call 9; go_loud (refine (locs_any _ _ _ _ _ (rs.filter RD.keep) _ hm3 H3.out.1 (by unfold Ints; rw [List.length_map, hm3]; exact (H1.out.2.2.2.1.below H2.out).below H3.out.2) (Nat.le_trans (by rw [← hm3, ← H1.out.1.1]; exact List.length_filter_le RD.keep rs) hn1) (fun r hr => H1.out.1.locs hn1 r (List.mem_filter.1 hr).1)).mono ?_); rintro e w4 ⟨rfl, hb⟩; have H4 := Lib.hid hb; clear hb)
    | fail)
  · go_ret
    exact ⟨rfl, Below.refl _ _⟩
  · go_ret
    exact ⟨rfl, Below.refl _ _⟩
  · go_ret
    have b12 := H1.out.2.2.2.2.trans (H2.out.mono H1.out.2.2.2.2.size)
    have b13 := b12.trans (H3.out.2.mono b12.size)
    exact ⟨rfl, b13.trans (H4.out.mono b13.size)⟩
end Go.Proofs.YtlbnenmdopcbjaaDoor
