/- mangleRules at the top level: what is kept. -/
import Derived.Test.YtlbnenmdopcbjaaDoorM1
import Derived.OwnWalk
import Derived.WalkMore
import Derived.BigQuiet
import Derived.Deep.QuietTactic
namespace Go.Proofs.YtlbnenmdopcbjaaDoor
open Go.RowKit

/-- A rule: 0 a comment, 1 a known at-rule (its name's number, how many rules it holds), else an empty selector rule; its block; its place. -/
structure RD where
  kd : Nat
  tk : Nat
  cn : Nat
  b : Nat
  loc : Int
def RD.data (r : RD) : Value := .iface (if r.kd = 0 then 86 else if r.kd = 1 then 89 else 93) (.pointer (some ⟨r.b, 0, none⟩))
def RD.ok (r : RD) (w : World) : Prop :=
  if r.kd = 0 then ∃ s, w.heap[r.b]? = some (.cells #[.string s] 88 (0, 0))
  else if r.kd = 1 then r.tk < 8 ∧ ∃ a c, w.heap[r.b]? = some (.cells (knownRow (atName r.tk) (.slice a r.cn c)) 92 (0, 0))
  else w.heap[r.b]? = some (.cells #[.slice none 0 0, .slice none 0 0, .int .i32 0] 96 (0, 0))
def RD.keep (r : RD) : Bool := r.kd == 0 || (r.kd == 1 && (decide (0 < r.cn) || decide (4 ≤ r.tk)))
def cellsR (rs : List RD) : List Value := rs.flatMap fun r => [r.data, .int .i32 r.loc]
theorem cellsR_length (rs : List RD) : (cellsR rs).length = rs.length * 2 := by
  induction rs with
  | nil => rfl
  | cons r rs ih => simp only [cellsR, List.flatMap_cons, List.length_append] at *; simp [ih]; omega
theorem cellsR_append (a b : List RD) : cellsR (a ++ b) = cellsR a ++ cellsR b := List.flatMap_append
theorem RD.ok_lt {r : RD} {w : World} (h : r.ok w) : r.b < w.heap.size := by
  have key : ∀ o, w.heap[r.b]? = some o → r.b < w.heap.size := fun o ho => (Array.getElem?_eq_some_iff.1 ho).1
  unfold RD.ok at h
  split at h
  · obtain ⟨s, h⟩ := h; exact key _ h
  · split at h
    · obtain ⟨_, a, c, h⟩ := h; exact key _ h
    · exact key _ h
theorem RD.ok_block {r : RD} {w w' : World} (h : r.ok w) (hb : w'.heap[r.b]? = w.heap[r.b]?) : r.ok w' := by
  unfold RD.ok at *
  rw [hb]
  exact h
theorem RD.ok_below {r : RD} {w w' : World} (h : r.ok w) (hb : Below w.heap.size w w') : r.ok w' := RD.ok_block h (hb.block _ (RD.ok_lt h))

/-- The rules of a slice. -/
structure Rules (w : World) (a : Option Addr) (rs : List RD) : Prop where
  row : RowAt w a (rs.length * 2) fun i => (cellsR rs).getD i undef
  ok : ∀ r ∈ rs, r.ok w

/-- What the table of removable at-rules answers. -/
def LooksUp (w : World) : Prop := ∃ mb, w.cell? ⟨0, 0, none⟩ = some (.map (some mb)) ∧ mb < w.heap.size ∧ ∀ t, t < 8 → ∀ w' : World, w'.heap[mb]? = w.heap[mb]? → (Instr.lookup 102 (.map (some mb)) (.string (atName t)) false).run Tryd.prog w' = .ok (.bool (decide (t < 4))) w'

theorem new_cells (w : World) (B : Nat) (hB : w.heap.size = B) (x y : Value) (T : TypeId) (fr : Nat × Nat) : ∀ j u, ([x, y] : List Value)[j]? = some u → (w.alloc (.cells #[x, y] T fr)).cell? ((⟨B, 0, none⟩ : Addr).add j) = some u := by
  intro j u h
  subst hB
  have e := heap_alloc_new w (.cells #[x, y] T fr)
  have ha : (⟨w.heap.size, 0, none⟩ : Addr).add j = ⟨w.heap.size, j, none⟩ := by unfold Addr.add; split <;> simp_all
  rw [ha, cell_of_row _ _ _ _ _ _ e]
  simpa [← Array.getElem?_toList] using h
theorem bel_drewN {B : Nat} {a w : World} (h : Below B a w) (n : Nat) : Below B a (w.drewN n) := ⟨h.os, h.tape, h.output, h.size, h.block⟩
theorem owns_drewN {w : World} {base : Nat} {e : TypeId} {size : Nat} {v : Value} {n : Nat} {xs : List Value} (h : w.ownsRow base e size v n xs) (k : Nat) : (w.drewN k).ownsRow base e size v n xs := h
theorem two_one (x y : Value) (hx : x.oneCell' = true) (hy : y.oneCell' = true) : ∀ u ∈ ([x, y] : List Value), u.oneCell' = true := by
  intro u hu
  simp at hu
  rcases hu with rfl | rfl
  · exact hx
  · exact hy
theorem rule_info : (Tryd.prog.info? 37).map (fun i => (i.zero, i.size, i.bytes)) = some (some (.agg #[.nilIface, .int .i32 0]), 2, 24) := by kernel_rfl

theorem cellsR_get (rs : List RD) (k : Nat) (h : k < rs.length) : (cellsR rs).getD (k * 2) undef = rs[k].data ∧ (cellsR rs).getD (k * 2 + 1) undef = .int .i32 rs[k].loc := by
  induction rs generalizing k with
  | nil => simp at h
  | cons r rs ih =>
    cases k with
    | zero => simp [cellsR]
    | succ k =>
      have := ih k (by simpa using h)
      have e : ∀ j, (cellsR (r :: rs)).getD (j + 2) undef = (cellsR rs).getD j undef := fun j => by
        show ([r.data, .int .i32 r.loc] ++ cellsR rs).getD (j + 2) undef = _
        simp
      constructor
      · rw [show (k + 1) * 2 = k * 2 + 2 by omega, e]; simpa using this.1
      · rw [show (k + 1) * 2 + 1 = k * 2 + 1 + 2 by omega, e]; simpa using this.2
theorem take_keep (rs : List RD) (k : Nat) (h : k < rs.length) : (rs.take (k + 1)).filter RD.keep = (rs.take k).filter RD.keep ++ (if rs[k].keep then [rs[k]] else []) := by
  rw [List.take_succ_eq_append_getElem h, List.filter_append]
  congr 1
  cases hk : rs[k].keep <;> simp [hk]
theorem keep_le (rs : List RD) (k : Nat) : ((rs.take k).filter RD.keep).length ≤ rs.length :=
  Nat.le_trans (List.length_filter_le _ _) (by rw [List.length_take]; omega)

set_option maxRecDepth 100000 in
set_option maxHeartbeats 1000000 in
theorem mangle_any (p : Option Addr) (a : Option Addr) (c : Nat) (rs : List RD) (w : World) (hR : Rules w a rs) (hn : rs.length ≤ 1048576) (hL : LooksUp w) :
    Calls Tryd.prog 15 #[.pointer p, .slice a rs.length c, .bool true] w fun e w' => ∃ v a' c', e = .returned v ∧ v = .slice a' (rs.filter RD.keep).length c' ∧ Rules w' a' (rs.filter RD.keep) ∧ Below w.heap.size w w' := by
  obtain ⟨i0, hi, hz0, hz1, hz2⟩ := info_parts rule_info
  generalize hnn : rs.length = n at *
  have HR := Lib.hid hR
  have HL := Lib.hid hL
  have HN := Lib.hid hnn
  clear hR hL hnn
  go_enter Tryd.func15, Tryd.ntmps15
  go_wp2
  go_step3
  go_wp2_with (at_make; refine wpList_make_own _ rfl _ _ 24 rfl w.heap.size 37 i0 _ 2 Tryd.underlying24 hi hz0 hz1 .i64 .i64 _ n rfl rfl (by rfl) ?c1 ?c2 ?c3 ?c4)
  case c1 => rw [hz2]; omega
  case c2 => unfold maxLen; omega
  case c3 => exact Nat.le_refl _
  case c4 =>
    intro w1 hown hg
    have hb0 : Below w.heap.size w w1 := (Below.refl _ _).grown hg (Nat.le_refl _) (fun k h => by cases h)
    go_wp2
    go_step3
    go_wp2
    go_loopw [7, 36] (fun v i wr => ∃ k : Nat, k ≤ n ∧ i = .int .i64 k ∧ v = .slice (some ⟨w.heap.size, 0, none⟩) ((rs.take k).filter RD.keep).length n ∧ wr.ownsRow w.heap.size 37 2 (.slice (some ⟨w.heap.size, 0, none⟩) ((rs.take k).filter RD.keep).length n) ((rs.take k).filter RD.keep).length (cellsR ((rs.take k).filter RD.keep)) ∧ Below w.heap.size w wr) (fun _ i _ => n - (intOf i).toNat)
    case atStart => exact ⟨0, Nat.zero_le _, rfl, by simp, by simpa [cellsR] using hown, hb0⟩
    case round =>
      obtain ⟨k, hk, rfl, rfl, hown, hb⟩ := hrel
      by_cases hlt : k < n
      · have hlt' : k < rs.length := by rw [HN.out]; exact hlt
        obtain ⟨b, o, ha, hbl, h2⟩ := HR.out.row.blk (by omega)
        subst ha
        have hc0 := (hb.cell (p := ⟨b, o + k * 2, none⟩) hbl).trans (h2 (k * 2) (by omega))
        have hc1 := (hb.cell (p := ⟨b, o + (k * 2 + 1), none⟩) hbl).trans (h2 (k * 2 + 1) (by omega))
        rw [← Nat.add_assoc] at hc1
        obtain ⟨g0, g1⟩ := cellsR_get rs k hlt'
        rw [g0] at hc0
        rw [g1] at hc1
        have hok := HR.out.ok rs[k] (List.getElem_mem _)
        have htk := take_keep rs k hlt'
        have hle := Nat.le_trans (List.length_filter_le RD.keep (rs.take k)) (List.length_take_le k rs)
        clear h2 g0 g1
        generalize rs[k] = r at *
        obtain ⟨kd, tk, cn, rb, loc⟩ := r
        have hbk := hb.block rb (RD.ok_lt hok)
        unfold RD.ok at hok
        unfold RD.data at hc0
        dsimp only at hok hc0 hc1
        by_cases h0 : kd = 0
        · subst h0
          rw [if_pos rfl] at hc0
          have hkp : RD.keep ⟨0, tk, cn, rb, loc⟩ = true := rfl
          clear hbk hok
          have HT := Lib.hid htk
          clear htk
          generalize hK : (rs.take k).filter RD.keep = K at *
          clear hK
          have HO := Lib.hid hown
          have HBW := Lib.hid hb
          generalize hm : K.length = m at *
          have HM := Lib.hid hm
          clear hown hm hb
          have hmn : m + 1 ≤ n := by omega
          have t0 := fun v wx => ta_no (T := 86) Tryd.underlying97 (by decide) (by kernel_rfl) v wx
          have t1 := fun v wx => ta_no (T := 86) Tryd.underlying98 (by decide) (by kernel_rfl) v wx
          have t2 := fun v wx => ta_no (T := 86) Tryd.underlying89 (by decide) (by kernel_rfl) v wx
          have t3 := fun v wx => ta_no (T := 86) Tryd.underlying103 (by decide) (by kernel_rfl) v wx
          have t4 := fun v wx => ta_no (T := 86) Tryd.underlying93 (by decide) (by kernel_rfl) v wx
          have ty := fun v wx => ta_yes Tryd.underlying86 v wx
          as_aux_lemma =>
            go_wp2_with (at_builtin; refine wpList_append_fits _ rfl (.tmp 262) (.tmp 264) 24 rfl w.heap.size 37 i0 2 Tryd.underlying24 hi hz1 w.heap.size m n _ rfl ((HO.out.alloc _).alloc _) ⟨wr.heap.size + 1, 0, none⟩ 1 1 [.iface 86 (.pointer (some ⟨rb, 0, none⟩)), .int .i32 loc] rfl rfl (new_cells _ _ (by simp) _ _ _ _) (two_one _ _ rfl rfl) hmn ?_; intro w2 hown2 hgrow2; have HO2 := Lib.hid (And.intro hown2 hgrow2); clear hown2 hgrow2)
            go_roundw
            case rel =>
              refine ⟨k + 1, hlt, by go_num, ?_⟩
              rw [HT.out, hkp, if_pos rfl, List.length_append, HM.out, cellsR_append]
              exact ⟨rfl, HO2.out.1, ((HBW.out.alloc HBW.out.size _).alloc (by simp; exact Nat.le_succ_of_le HBW.out.size) _).grown HO2.out.2 (by simp; exact Nat.le_succ_of_le (Nat.le_succ_of_le HBW.out.size)) (fun j h => by cases h; exact Nat.le_refl _)⟩
            case measure => simp [intOf]; omega
        · by_cases h1 : kd = 1
          · subst h1
            rw [if_neg (by decide), if_pos rfl] at hok hc0
            obtain ⟨htk8, ra, rc, hok⟩ := hok
            have hrow := hbk.trans hok
            have hrb : rb < wr.heap.size := (Array.getElem?_eq_some_iff.1 hrow).1
            have hd0 := cell_of_row _ _ 0 _ _ _ hrow
            have hd2 := cell_of_row _ _ 2 _ _ _ hrow
            simp at hd0 hd2
            obtain ⟨mb, hgl, hmb, hlk⟩ := HL.out
            have hgl2 := (hb.cell (p := ⟨0, 0, none⟩) (block_lt_of_cell hgl)).trans hgl
            have hmb2 := hb.block mb hmb
            have hmb3 := Nat.lt_of_lt_of_le hmb hb.size
            have HK := Lib.hid (hlk tk htk8)
            have HMB := Lib.hid hmb2
            clear hlk hmb2 hrow hok hgl hbk
            have hg0 : 0 < wr.heap.size := by omega
            have HT := Lib.hid htk
            clear htk
            generalize hK : (rs.take k).filter RD.keep = K at *
            clear hK
            have HO := Lib.hid hown
            have HBW := Lib.hid hb
            generalize hm : K.length = m at *
            have HM := Lib.hid hm
            clear hown hm hb
            have hmn : m + 1 ≤ n := by omega
            have t0 := fun v wx => ta_no (T := 89) Tryd.underlying97 (by decide) (by kernel_rfl) v wx
            have t1 := fun v wx => ta_no (T := 89) Tryd.underlying98 (by decide) (by kernel_rfl) v wx
            have ty := fun v wx => ta_yes Tryd.underlying89 v wx
            by_cases hcn : 0 < cn
            · have hkp : RD.keep ⟨1, tk, cn, rb, loc⟩ = true := by simp [RD.keep, hcn]
              have hc : ((cn : Int) == 0) = false := by rw [beq_eq_false_iff_ne]; omega
              as_aux_lemma =>
                go_wp2_with fail
                go_quiet (fail)
                go_wp2_with (at_builtin; refine wpList_append_fits _ rfl (.tmp 262) (.tmp 264) 24 rfl w.heap.size 37 i0 2 Tryd.underlying24 hi hz1 w.heap.size m n _ rfl ((owns_drewN (HO.out.alloc _) _).alloc _) ⟨wr.heap.size + 1, 0, none⟩ 1 1 [.iface 89 (.pointer (some ⟨rb, 0, none⟩)), .int .i32 loc] rfl rfl (new_cells _ _ (by simp) _ _ _ _) (two_one _ _ rfl rfl) hmn ?_; intro w2 hown2 hgrow2; have HO2 := Lib.hid (And.intro hown2 hgrow2); clear hown2 hgrow2)
                go_roundw
                case rel =>
                  refine ⟨k + 1, hlt, by go_num, ?_⟩
                  rw [HT.out, hkp, if_pos rfl, List.length_append, HM.out, cellsR_append]
                  exact ⟨rfl, HO2.out.1, ((bel_drewN (HBW.out.alloc HBW.out.size _) _).alloc (by simp; exact Nat.le_succ_of_le HBW.out.size) _).grown HO2.out.2 (by simp; exact Nat.le_succ_of_le (Nat.le_succ_of_le HBW.out.size)) (fun j h => by cases h; exact Nat.le_refl _)⟩
                case measure => simp [intOf]; omega
            · obtain rfl : cn = 0 := by omega
              obtain ⟨nm, hnm⟩ : ∃ nm, atName tk = nm := ⟨_, rfl⟩
              rw [hnm] at hd0
              have hlkp := fun j => HK.out ((wr.alloc (.cells #[.iface 89 (.pointer (some ⟨rb, 0, none⟩)), .int .i32 loc] 37)).drewN j) (by show (wr.alloc _).heap[mb]? = _; rw [heap_alloc_old _ _ hmb3]; exact HMB.out)
              rw [hnm] at hlkp
              clear hnm
              by_cases h4 : tk < 4
              · have hkp : RD.keep ⟨1, tk, 0, rb, loc⟩ = false := by simp [RD.keep]; omega
                rw [decide_eq_true h4] at hlkp
                as_aux_lemma =>
                  go_wp2_with fail
                  go_quiet (fail)
                  go_wp2
                  go_roundw
                  case rel =>
                    refine ⟨k + 1, hlt, by go_num, ?_⟩
                    rw [HT.out, hkp, if_neg (by decide), List.append_nil, HM.out]
                    exact ⟨rfl, owns_drewN (HO.out.alloc _) _, bel_drewN (HBW.out.alloc HBW.out.size _) _⟩
                  case measure => simp [intOf]; omega
              · have hkp : RD.keep ⟨1, tk, 0, rb, loc⟩ = true := by simp [RD.keep]; omega
                rw [decide_eq_false h4] at hlkp
                as_aux_lemma =>
                  go_wp2_with fail
                  go_quiet (fail)
                  go_wp2_with (at_builtin; refine wpList_append_fits _ rfl (.tmp 262) (.tmp 264) 24 rfl w.heap.size 37 i0 2 Tryd.underlying24 hi hz1 w.heap.size m n _ rfl ((owns_drewN (HO.out.alloc _) _).alloc _) ⟨wr.heap.size + 1, 0, none⟩ 1 1 [.iface 89 (.pointer (some ⟨rb, 0, none⟩)), .int .i32 loc] rfl rfl (new_cells _ _ (by simp) _ _ _ _) (two_one _ _ rfl rfl) hmn ?_; intro w2 hown2 hgrow2; have HO2 := Lib.hid (And.intro hown2 hgrow2); clear hown2 hgrow2)
                  go_roundw
                  case rel =>
                    refine ⟨k + 1, hlt, by go_num, ?_⟩
                    rw [HT.out, hkp, if_pos rfl, List.length_append, HM.out, cellsR_append]
                    exact ⟨rfl, HO2.out.1, ((bel_drewN (HBW.out.alloc HBW.out.size _) _).alloc (by simp; exact Nat.le_succ_of_le HBW.out.size) _).grown HO2.out.2 (by simp; exact Nat.le_succ_of_le (Nat.le_succ_of_le HBW.out.size)) (fun j h => by cases h; exact Nat.le_refl _)⟩
                  case measure => simp [intOf]; omega
          · rw [if_neg h0, if_neg h1] at hok hc0
            have hkp : RD.keep ⟨kd, tk, cn, rb, loc⟩ = false := by simp [RD.keep, h0, h1]
            have hrow := hbk.trans hok
            have hrb : rb < wr.heap.size := (Array.getElem?_eq_some_iff.1 hrow).1
            have hd1 := cell_of_row _ _ 1 _ _ _ hrow
            simp at hd1
            clear hrow hok hbk h0 h1
            have HT := Lib.hid htk
            clear htk
            generalize hK : (rs.take k).filter RD.keep = K at *
            clear hK
            have HO := Lib.hid hown
            have HBW := Lib.hid hb
            generalize hm : K.length = m at *
            have HM := Lib.hid hm
            clear hown hm hb
            have t0 := fun v wx => ta_no (T := 93) Tryd.underlying97 (by decide) (by kernel_rfl) v wx
            have t1 := fun v wx => ta_no (T := 93) Tryd.underlying98 (by decide) (by kernel_rfl) v wx
            have t2 := fun v wx => ta_no (T := 93) Tryd.underlying89 (by decide) (by kernel_rfl) v wx
            have t3 := fun v wx => ta_no (T := 93) Tryd.underlying103 (by decide) (by kernel_rfl) v wx
            have ty := fun v wx => ta_yes Tryd.underlying93 v wx
            as_aux_lemma =>
              go_wp2
              go_roundw
              case rel =>
                refine ⟨k + 1, hlt, by go_num, ?_⟩
                rw [HT.out, hkp, if_neg (by decide), List.append_nil, HM.out]
                exact ⟨rfl, HO.out.alloc _, HBW.out.alloc HBW.out.size _⟩
              case measure => simp [intOf]; omega
      · obtain rfl : k = n := by omega
        have hall : rs.take k = rs := List.take_of_length_le (Nat.le_of_eq HN.out)
        rw [hall] at hown ⊢
        have HO := Lib.hid hown
        have HBW := Lib.hid hb
        clear hown hb hall
        generalize hK : rs.filter RD.keep = K at *
        have HK := Lib.hid hK
        clear hK
        as_aux_lemma =>
          go_wp2
          try rw [Exit.noGoto_ret]
          go_ret
          refine ⟨_, _, _, rfl, by rw [HK.out]; rfl, ?_, HBW.out⟩
          rw [HK.out]
          refine ⟨fun h => ⟨_, 0, rfl, fun i hi => ?_⟩, fun r hr => ?_⟩
          · rw [Nat.zero_add, HO.out.cellAt i hi]
            show (cellsR K)[i]? = some ((cellsR K).getD i undef)
            rw [List.getD_eq_getElem?_getD, List.getElem?_eq_getElem (by rw [cellsR_length]; exact hi)]
            rfl
          · rw [← HK.out] at hr
            exact RD.ok_below (HR.out.ok r (List.mem_filter.1 hr).1) HBW.out
end Go.Proofs.YtlbnenmdopcbjaaDoor
