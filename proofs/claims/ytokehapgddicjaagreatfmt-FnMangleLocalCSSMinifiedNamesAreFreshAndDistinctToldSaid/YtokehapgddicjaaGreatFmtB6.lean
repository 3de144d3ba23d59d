/- mangleLocalCSS with short names. -/
import Derived.Test.YtokehapgddicjaaGreatFmtB6m
namespace Go.Proofs.YtokehapgddicjaaGreatFmt
open Go.RowKit
set_option linter.unusedVariables false
set_option linter.unusedSimpArgs false
set_option maxRecDepth 100000 in
set_option maxHeartbeats 8000000 in
theorem mangle_any (cx op fl cr rf ss S2 sb mp um n : Nat) (S : Nat → ByteArray) (B : Nat → Bool) (C : Nat → Int) (f0 u0 : Value → Option Value) (U : List ByteArray) (w : World) (hc : Ctx cx op fl cr rf ss S2 sb mp um n S B C w) (ha : Apart cx op fl cr rf ss S2 sb mp um)
    (hm : MapIs Tryz.prog 44 w mp f0) (hu : MapIs Tryz.prog 9 w um u0) (hU : SetIs u0 U) (hUn : U.length ≤ 1048576) (hn : n ≤ 4096) (hS : ∀ i, i < n → (S i).size ≤ 1048576) :
    Calls Tryz.prog 20 #[.pointer (some ⟨cx, 0, none⟩), .map (some um)] w (fun e w' => e = .returned (.tuple #[]) ∧ ∃ (d : List Nat) (m : Nat) (ps : List (Nat × Nat)) (u : Value → Option Value), d.Perm (locs B n) ∧ d.Pairwise (fun x y => ltS C y x = false) ∧ Mint w mp um f0 U (globs S B n) d d.length m ps u w') := by
  have HS := Lib.hid hS
  have HC := Lib.hid (And.intro hc (And.intro ha (And.intro hm (And.intro hu hU))))
  have t0 := hc.timer
  have t1 := hc.props
  clear hc ha hm hu hU hS
  have mk35 := fun (wx : World) => run_make_map wx 35 9 4 Tryz.underlying35
  have mk186 := fun (wx : World) => run_make_map wx 186 44 191 Tryz.underlying186
  go_enter_defers Tryz.func20, Tryz.ntmps20
  go_upto_region 5 with (go_at_call 23; refine (begin_nil _ _).mono ?_; rintro e w1 ⟨rfl, rfl⟩)
  have e5 : ∀ o : Obj, (((w1.alloc (.map #[] 0)).alloc (.map #[] 0)).alloc o).heap[w1.heap.size]? = some (.map #[] 0) := fun o => by
    rw [Below.heap_alloc _ _ _ (by simp; omega), Below.heap_alloc _ _ _ (by simp)]
    exact heap_alloc_new w1 _
  have e6 : ∀ o : Obj, (((w1.alloc (.map #[] 0)).alloc (.map #[] 0)).alloc o).heap[w1.heap.size + 1]? = some (.map #[] 0) := fun o => by
    rw [Below.heap_alloc _ _ _ (by simp)]
    have := heap_alloc_new (w1.alloc (.map #[] 0)) (.map #[] 0)
    simpa using this
  have e7 : ∀ o : Obj, (((w1.alloc (.map #[] 0)).alloc (.map #[] 0)).alloc o).heap[w1.heap.size + 1 + 1]? = some o := fun o => by
    have := heap_alloc_new ((w1.alloc (.map #[] 0)).alloc (.map #[] 0)) o
    simpa using this
  have e8 : ∀ o : Obj, Below w1.heap.size w1 (((w1.alloc (.map #[] 0)).alloc (.map #[] 0)).alloc o) := fun o => (((Below.refl _ _).alloc (Nat.le_refl _) _).alloc (by simp) _).alloc (by simp; omega) _
  have HE := Lib.hid (And.intro e5 (And.intro e6 (And.intro e7 e8)))
  clear e5 e6 e7 e8
  go_step
  refine wpList_buildTo rfl 188 #[] rfl (some 46) rfl freq0 (by kernel_rfl) ?_
  refine Go.Great.wpList_allocTo rfl (some 7) rfl _ _ (alloc_gen info188 _ _ _ rfl (w1.heap.size + 1 + 1) (by simp)) ?_
  refine wpList_store_rowTo rfl 188 (.tmp 7) (.tmp 46) rfl rfl (w1.heap.size + 1 + 1) freq0 rfl rfl 188 freq0 (HE.out.2.2.1 _) (by kernel_rfl) rfl (by kernel_rfl) ?_
  go_frame
  have hx5 := HE.out.1 (.cells freq0 188)
  have hx6 := HE.out.2.1 (.cells freq0 188)
  have hx7 := HE.out.2.2.1 (.cells freq0 188)
  have hx8 := HE.out.2.2.2 (.cells freq0 188)
  have hz5 := (setRow_other' (((w1.alloc (.map #[] 0)).alloc (.map #[] 0)).alloc (.cells freq0 188)) (w1.heap.size + 1 + 1) w1.heap.size freq0 (by omega)).trans hx5
  have hz6 := (setRow_other' (((w1.alloc (.map #[] 0)).alloc (.map #[] 0)).alloc (.cells freq0 188)) (w1.heap.size + 1 + 1) (w1.heap.size + 1) freq0 (by omega)).trans hx6
  have hz7 := setRow_heap' _ _ freq0 _ _ _ hx7
  have hz8 := below_setRow' hx8 (b := w1.heap.size + 1 + 1) (by omega) freq0
  generalize (((w1.alloc (.map #[] 0)).alloc (.map #[] 0)).alloc (.cells freq0 188)).setRow (w1.heap.size + 1 + 1) freq0 = W0 at *
  generalize hg5 : w1.heap.size = g5 at *
  have C0 := HC.out.1.below (by rw [hg5]; exact hz8)
  have A0 := HC.out.1.apart (g5 := g5) (g6 := g5 + 1) (by rw [hg5]; exact Nat.le_refl _) (by rw [hg5]; omega) (by omega)
  have h0 : Sift W0 g5 (g5 + 1) S B 0 W0 := ⟨⟨_, map_empty hz5, SetIs.nil⟩, ⟨_, map_empty hz6, RefIs.nil⟩, Near.refl _ _ _⟩
  have HX := Lib.hid (And.intro C0 (And.intro A0 (And.intro hz7 (And.intro hz8 hg5))))
  have HSI := Lib.hid h0
  have t2 := C0.reach
  clear hx5 hx6 hx7 hx8 hz5 hz6 hz7 hz8 hg5 C0 A0 h0 HE mk35 mk186 t0 t1
  go_upto_block 0 with fail
  go_cut [] from 31 (fun w' => Sift W0 g5 (g5 + 1) S B n w')
  case first =>
    -- [
    as_aux_lemma =>
    go_wp2_with fail
    go_loopw [53] (fun iv wr => ∃ k : Nat, k ≤ 1 ∧ iv = .int .i64 k ∧ Hid (Sift W0 g5 (g5 + 1) S B (if k = 0 then 0 else n) wr)) (fun iv _ => 1 - (intOf iv).toNat)
    case atStart => exact ⟨0, Nat.zero_le _, rfl, HSI.out⟩
    case round =>
      obtain ⟨k, hk, rfl, HW⟩ := hrel
      by_cases hlt : k < 1
      · obtain rfl : k = 0 := by omega
        have hcx := HX.out.1.nearOf HX.out.2.1 HW.out.near
        have q1 := hcx.files
        have q2 := hcx.syms
        have q3 := hcx.reach0
        have q4 := hcx.repr
        have q5 := hcx.row
        have q6 := fun v wx => ta_yes Tryz.underlying54 v wx
        clear hcx
        go_wp2_with fail
        go_loopw [82] (fun iv wk => ∃ k : Nat, k ≤ n ∧ iv = .int .i64 k ∧ Hid (Sift W0 g5 (g5 + 1) S B k wk)) (fun iv _ => n - (intOf iv).toNat)
        case atStart => exact ⟨0, Nat.zero_le _, rfl, HW.out⟩
        case round =>
          obtain ⟨k, hk, rfl, HK⟩ := hrel
          by_cases hkn : k < n
          · have hcx := HX.out.1.nearOf HX.out.2.1 HK.out.near
            have s0 := hcx.sym k hkn 0 _ rfl
            have s1 := hcx.sym k hkn 1 _ rfl
            have s2 := hcx.sym k hkn 2 _ rfl
            have s3 := hcx.sym k hkn 3 _ rfl
            have s4 := hcx.sym k hkn 4 _ rfl
            have s5 := hcx.sym k hkn 5 _ rfl
            have s6 := hcx.sym k hkn 6 _ rfl
            have s7 := hcx.sym k hkn 7 _ rfl
            have s8 := hcx.sym k hkn 8 _ rfl
            have s9 := hcx.sym k hkn 9 _ rfl
            rw [Nat.add_zero] at s0
            have HCX := Lib.hid hcx
            clear hcx
            have b0 : (0 : Int) ≤ (k : Int) := by omega
            have b1 : (k : Int) < (n : Int) := by omega
            cases hB : B k with
            | true =>
              rw [hB] at s8
              simp only [if_true] at s8
              obtain ⟨f, hf1, hf2⟩ := HK.out.glob
              have HF := Lib.hid hf2
              have HB := Lib.hid hB
              clear hf2 hB
              go_wp2_with (refine wpList_put_map _ rfl _ _ _ _ rfl 9 4 K9 Tryz.underlying35 g5 f rfl (hf1.below ((Below.refl _ _).alloc (Nat.le_refl _) _)) _ _ _ rfl rfl (str_key _ (HS.out k hkn)) ?_; intro w' hm' hg')
              exact ⟨⟨k + 1, by omega, by go_num, (HK.out.below ((Below.refl _ _).alloc (Nat.le_refl _) _)).global (by omega) HB.out (hf1.below ((Below.refl _ _).alloc (Nat.le_refl _) _)) HF.out hm' hg'⟩, by simp [intOf]; omega⟩
            | false =>
              rw [hB] at s8
              simp only [Bool.false_eq_true, if_false] at s8
              have HB := Lib.hid hB
              clear hB
              have hwr := wrap_u32 k (by omega)
              go_upto_region 17 with fail
              refine wp_forget (fun w' => Below wr.heap.size wr w' ∧ w'.heap[wr.heap.size + 1]? = some (.cells #[.int .u32 1, .int .u32 (k : Int)] 44 (0, 0))) ⟨below_two _ _ _, heap_two _ _ _⟩ ?_
              rintro w2 ⟨hb2, h2⟩
              have HC2 := Lib.hid (HCX.out.below hb2.drew)
              have z0 := Lib.cell_of_heap h2 0
              have z1 := Lib.cell_of_heap h2 1
              simp only [List.getElem?_toArray, List.getElem?_cons_zero, List.getElem?_cons_succ] at z0 z1
              have z2 := (HCX.out.below hb2).syms
              have f0 := Lib.frozen_of_heap h2 0
              have f1 := Lib.frozen_of_heap h2 1
              clear s0 s1 s2 s3 s4 s5 s6 s7 s8 s9
              refine wp_region_noPanic ?_
              go_region_with (go_at_call 25; refine (follow_any S2 sb n k _ (HC2.out.row) hkn (by omega) (HC2.out.sym k hkn 2 _ rfl) (HC2.out.sym k hkn 3 _ rfl) HC2.out.inv0 HC2.out.inv1).mono ?_; rintro e w3 ⟨rfl, hb3⟩; have h3 := (hb3.block _ (Array.getElem?_eq_some_iff.1 h2).1).trans h2; have y0 := Lib.cell_of_heap h3 0; have y1 := Lib.cell_of_heap h3 1; simp only [List.getElem?_toArray, List.getElem?_cons_zero, List.getElem?_cons_succ] at y0 y1; have g0 := Lib.frozen_of_heap h3 0; have g1 := Lib.frozen_of_heap h3 1)
              all_goals
                refine NoPanic.normal ?_
                go_upto_region 18 with fail
                refine wp_forget (fun w' => Below wr.heap.size wr w' ∧ w'.heap[wr.heap.size + 1]? = some (.cells #[.int .u32 1, .int .u32 (k : Int)] 44 (0, 0))) ⟨((hb2.drew.trans (hb3.mono hb2.size)).setCell (p := ⟨wr.heap.size + 1, 0, none⟩) (show wr.heap.size ≤ wr.heap.size + 1 by omega) _).setCell (p := ⟨wr.heap.size + 1, 1, none⟩) (show wr.heap.size ≤ wr.heap.size + 1 by omega) _, set_two' h3⟩ ?_
                clear z0 z1 z2 f0 f1 y0 y1 g0 g1 h2 h3 hb2 hb3 HC2
                rintro w4 ⟨hb4, h4⟩
                have z0 := Lib.cell_of_heap h4 0
                have z1 := Lib.cell_of_heap h4 1
                simp only [List.getElem?_toArray, List.getElem?_cons_zero, List.getElem?_cons_succ] at z0 z1
                obtain ⟨f, hf1, hf2⟩ := HK.out.refs
                have HF := Lib.hid hf2
                obtain ⟨kl, hkl⟩ := ref_key k (by omega)
                have HKL := Lib.hid hkl
                clear hf2 hkl
                go_wp2_with (refine wpList_put_map _ rfl _ _ _ _ rfl 44 191 K44 Tryz.underlying186 (g5 + 1) f rfl (hf1.below hb4) _ _ kl rfl rfl HKL.out ?_; intro w' hm' hg')
                exact ⟨⟨k + 1, by omega, by go_num, (HK.out.below hb4).local (by omega) HB.out (hf1.below hb4) HF.out hm' hg'⟩, by simp [intOf]; omega⟩
          · have hkn2 : k = n := by omega
            subst hkn2
            have q7 := (HX.out.1.nearOf HX.out.2.1 HK.out.near).freq
            go_wp2_with fail
            exact ⟨⟨1, by omega, by go_num, HK.out⟩, by simp [intOf]⟩
      · obtain rfl : k = 1 := by omega
        go_wp2_with fail
        go_meet
        case rel => exact HW.out
    -- ]
  case rest =>
    have HSN := Lib.hid hcut
    obtain ⟨fr, hfr, hrl⟩ := hcut.refs
    obtain ⟨es, clock, hes, hst, hkk, hff⟩ := hfr
    have hperm := keys_perm hst hff ((locs B n).map ref) (locs_nodup B n) hrl
    have hM : es.size ≤ n := by
      have h1 := hperm.length_eq
      simp at h1
      rw [h1]
      exact locs_le B n
    have HP := Lib.hid (And.intro hperm hst)
    have hst' := hst
    obtain ⟨i0, hi, hz0, hz1, hz2⟩ := info_parts sc_info
    have hmk : ∀ wx : World, (Instr.makeSlice 194 (.int .i64 0) (.int .i64 es.size)).run Tryz.prog wx = .ok (.slice (some ⟨wx.heap.size, 0, none⟩) 0 es.size) (wx.alloc (.cells (madeCells #[.int .u32 0, .int .u32 0, .int .u32 0, .int .u32 0] (es.size * 4)) 198)) := by
      intro wx
      have hr := run_make (P := Tryz.prog) wx 194 198 i0 _ Tryz.underlying194 hi hz0 .i64 .i64 0 es.size (by omega) (by omega) (by rw [hz2]; omega) (by omega)
      simpa [hz1, Value.cells] using hr
    have t3 := (HX.out.1.nearOf HX.out.2.1 HSN.out.near).stable
    clear hcut hrl hff hkk hperm hst t2
    generalize hg8 : wc.heap.size = g8 at *
    have HG8 := Lib.hid hg8
    go_upto_region 24 with (refine wpList_len_map _ rfl (.tmp 121) 186 rfl 44 191 Tryz.underlying186 (g5 + 1) es clock rfl hes ?_)
    refine wp_forget (fun w' => w'.ownsRow g8 198 4 (.slice (some ⟨g8, 0, none⟩) 0 es.size) 0 (flat (encS C) []) ∧ w'.heap.size = g8 + 1 ∧ Below g8 wc w') ⟨by rw [← hg8]; exact own_fresh' wc _ 198 4 es.size _ (Nat.le_refl _) (by unfold maxLen; omega) (by simp [size_madeCells]), by simp [hg8], by rw [← hg8]; exact (Below.refl _ _).alloc (Nat.le_refl _) _⟩ ?_
    rintro w2 ⟨ho2, hs2, hb2⟩
    have t4 := (hb2.cell (p := ⟨cx, 16, none⟩) (show cx < g8 by rw [← hg8]; exact block_lt_of_cell t3)).trans t3
    have hes2 := (hb2.block (g5 + 1) (by rw [← hg8]; exact (Array.getElem?_eq_some_iff.1 hes).1)).trans hes
    have H2 := Lib.hid (And.intro ho2 hb2)
    clear ho2 hb2 t3 hmk
    go_upto_block 4 with (refine wpList_range_map _ rfl (.tmp 129) 186 rfl 44 191 Tryz.underlying186 (g5 + 1) es clock rfl hes2 ?_)
    rw [hs2]
    go_frame
    refine wp_forget (fun w' => w'.ownsRow g8 198 4 (.slice (some ⟨g8, 0, none⟩) 0 es.size) 0 (flat (encS C) []) ∧ w'.heap[g8 + 1]? = some (.mapIter (some (g5 + 1)) clock #[] clock) ∧ w'.heap.size = g8 + 1 + 1 ∧ Below g8 wc w') ⟨H2.out.1.alloc _, by rw [← hs2]; exact heap_alloc_new w2 _, by simp [hs2], H2.out.2.alloc (by omega) _⟩ ?_
    rintro w3 ⟨ho3, hi3, hs3, hb3⟩
    have H3 := Lib.hid (And.intro ho3 (And.intro hi3 hb3))
    have HES := Lib.hid (And.intro hes hst')
    clear ho3 hi3 hb3 H2 hes2 t4 hs2 hst'
    go_cut [15] from 31 (fun s15 w' => ∃ d : List Nat, d.Perm (locs B n) ∧ s15 = .slice (some ⟨g8, 0, none⟩) d.length es.size ∧ Hid (w'.ownsRow g8 198 4 (.slice (some ⟨g8, 0, none⟩) d.length es.size) d.length (flat (encS C) d) ∧ Below g8 wc w'))
    case first =>
      -- [
      as_aux_lemma =>
      go_wp2_with fail
      go_loopw [15] (fun v15 wr => ∃ (seen : Array Nat) (c0 : Nat) (d : List Nat), clock ≤ c0 ∧ v15 = .slice (some ⟨g8, 0, none⟩) d.length es.size ∧ wr.heap[g8 + 1]? = some (.mapIter (some (g5 + 1)) clock seen c0) ∧ Hid (wr.ownsRow g8 198 4 (.slice (some ⟨g8, 0, none⟩) d.length es.size) d.length (flat (encS C) d) ∧ Below g8 wc wr ∧ (d.map ref ++ (leftOf es seen).toList.map (·.key)).Perm ((locs B n).map ref) ∧ g8 + 1 + 1 ≤ wr.heap.size)) (fun _ wr => (leftOf es (wr.iterSeen (g8 + 1))).size)
      case atStart => exact ⟨#[], clock, [], Nat.le_refl _, rfl, H3.out.2.1, H3.out.1, H3.out.2.2, by rw [left_none]; simpa using HP.out.1, by omega⟩
      case round =>
        obtain ⟨seen, c0, d, hc0, rfl, hit, HD⟩ := hrel
        have hesr := (HD.out.2.1.block (g5 + 1) (by rw [← HG8.out]; exact (Array.getElem?_eq_some_iff.1 HES.out.1).1)).trans HES.out.1
        go_wp2_with (at_next; refine wpList_next_map _ rfl (.tmp 130) rfl (g8 + 1) (g5 + 1) clock c0 seen es clock rfl hit hesr HES.out.2.1 hc0 ?_ ?_)
        · intro h0
          have hend := HD.out.2.2.1
          rw [h0] at hend
          simp only [List.map_nil, List.append_nil] at hend
          have hp := perm_ref hend
          have HPP := Lib.hid hp
          clear hend hp h0
          go_wp2_with fail
          go_meet
          case rel => exact ⟨d, HPP.out, rfl, HD.out.1, HD.out.2.1⟩
        · rintro ⟨ky, vl, bn⟩ he w4 hr4 hg4 hs4
          have he := Array.mem_toList_iff.2 he
          have hml := mem_left he
          obtain ⟨i, hil, rfl⟩ := List.mem_map.1 (HP.out.1.mem_iff.1 (List.mem_map.2 ⟨_, hml.1, rfl⟩))
          have hin : i < n := locs_lt hil
          have HE := Lib.hid (And.intro he (And.intro hml hil))
          have hb4 : Below g8 wc w4 := HD.out.2.1.grown hg4 (by have := HD.out.2.2.2; omega) (fun j h => by cases h; omega)
          have hes4 := (hb4.block (g5 + 1) (by rw [← HG8.out]; exact (Array.getElem?_eq_some_iff.1 HES.out.1).1)).trans HES.out.1
          have ho4 := own_grown HD.out.1 hg4 (by omega)
          have H4 := Lib.hid (And.intro ho4 (And.intro hb4 (And.intro hg4 hs4)))
          have HIT := Lib.hid hit
          clear he hml hil hb4 ho4 hg4 hesr hit
          simp only [ref]
          go_upto_region 28 with (refine wpList_entry_map _ rfl (.tmp 130) rfl (g8 + 1) (g5 + 1) clock seen es clock ⟨ref i, vl, bn⟩ rfl hr4 hes4 HE.out.2.1.1 HES.out.2.2.1 ?_; simp only [ref])
          refine wp_forget (fun w' => w'.ownsRow g8 198 4 (.slice (some ⟨g8, 0, none⟩) d.length es.size) d.length (flat (encS C) d) ∧ Below g8 wc w' ∧ w'.heap[g8 + 1]? = some (.mapIter (some (g5 + 1)) clock (seen.push bn) clock) ∧ w'.heap[wr.heap.size]? = some (.cells #[.int .u32 1, .int .u32 (i : Int)] 44 (0, 0)) ∧ w'.heap.size = wr.heap.size + 1) ⟨H4.out.1.alloc _, H4.out.2.1.alloc (by have := HD.out.2.2.2; have := H4.out.2.2.2; omega) _, (heap_alloc_old w4 _ (Array.getElem?_eq_some_iff.1 hr4).1).trans hr4, by rw [← H4.out.2.2.2]; exact heap_alloc_new w4 _, by simp [H4.out.2.2.2]⟩ ?_
          rintro w5 ⟨ho5, hb5, hr5, h5, hs5⟩
          have hcx5 := (HX.out.1.nearOf HX.out.2.1 HSN.out.near).below (by rw [HG8.out]; exact hb5)
          have z0 := Lib.cell_of_heap h5 0
          have z1 := Lib.cell_of_heap h5 1
          simp only [List.getElem?_toArray, List.getElem?_cons_zero, List.getElem?_cons_succ] at z0 z1
          have hap := (HX.out.1.nearOf HX.out.2.1 HSN.out.near).apart (g5 := g8) (g6 := g8 + 1) (by rw [HG8.out]; exact Nat.le_refl _) (by rw [HG8.out]; omega) (by omega)
          have hne : wr.heap.size ≠ g8 := by have := HD.out.2.2.2; have := H4.out.2.2.2; omega
          have HR0 := Lib.hid (show RT w5 g8 wr.heap.size cx ss S2 sb n i (C i) w5 from ⟨⟨rfl, rfl, rfl, Nat.le_refl _, fun _ _ _ => rfl⟩, z0, z1, hcx5.stable1, hcx5.syms, hcx5.row, hcx5.sym i hin 4 _ rfl⟩)
          have HNE := Lib.hid (show wr.heap.size ≠ g8 ∧ ss ≠ g8 ∧ cx ≠ g8 ∧ S2 ≠ g8 ∧ sb ≠ g8 from ⟨hne, hap.ss.1, hap.cx.1, hap.S2.1, hap.sb.1⟩)
          have H5 := Lib.hid (And.intro ho5 (And.intro hb5 (And.intro hr5 hs5)))
          clear z0 z1 hap hne ho5 hb5 hr5 h5 hs5 hr4 hes4 hcx5
          have b0 : (0 : Int) ≤ (i : Int) := by omega
          have hdl : d.length + 1 ≤ es.size := by
            have h1 := HD.out.2.2.1.length_eq
            have h2 := HP.out.1.length_eq
            have h3 : 0 < (leftOf es seen).toList.length := List.length_pos_of_mem HE.out.1
            simp at h1 h2 h3
            omega
          go_region_held3 (fun w' => w5.grownBy w' (some g8) ∧ w'.cell? ⟨wr.heap.size, 0, none⟩ = some (.int .u32 1) ∧ w'.cell? ⟨wr.heap.size, 1, none⟩ = some (.int .u32 (i : Int)) ∧ w'.cell? ⟨ss, 1, none⟩ = some (.int .u32 1) ∧ w'.cell? ⟨cx, 12, none⟩ = some (.slice (some ⟨S2, 0, none⟩) 2 2) ∧ w'.cell? ⟨S2, 1, none⟩ = some (.slice (some ⟨sb, 0, none⟩) n n) ∧ w'.cell? ⟨sb, i * 10 + 4, none⟩ = some (.int .u32 (C i))) (first | exact rt_drew HR0.out | exact rt_call HNE.out HR0.out hb6 (by assumption) | exact rt_alloc HNE.out HR0.out _ (by assumption) | exact rt_grow HNE.out HR0.out hg9 (by assumption) | assumption) (first | (go_at_call 27; refine (get_any S2 sb n i _ (by go_split_ands; assumption) hin (by omega)).mono ?_; rintro e w6 ⟨rfl, hb6⟩; have hx6 := ((Below.refl w5.heap.size w5).drew).trans (hb6.mono (Nat.le_refl _))) | (refine step_append_fits rfl (.tmp 135) (.tmp 153) 194 rfl g8 198 i0 4 Tryz.underlying194 hi hz1 g8 d.length es.size (flat (encS C) d) rfl ((own_below'' H5.out.1 hx6).alloc _) ⟨w6.heap.size, 0, none⟩ 1 1 (encS C i) rfl rfl (new_row' _ _ rfl _ _ _) (encS_ones C i) hdl ?_; intro w9 hown9 hg9))
          have hgr : w5.grownBy w9 (some g8) := grown_trans (grown_of_below' (hx6.alloc hx6.size _)) hg9
          have hr9 : w9.heap[g8 + 1]? = some (.mapIter (some (g5 + 1)) clock (seen.push bn) clock) := (hgr.block _ (Array.getElem?_eq_some_iff.1 H5.out.2.2.1).1 (fun e => by have := Option.some.inj e; omega)).trans H5.out.2.2.1
          have hb9 : Below g8 wc w9 := H5.out.2.1.grown hgr (by have := HD.out.2.2.2; have := H5.out.2.2.2; omega) (fun j h => by cases h; exact Nat.le_refl _)
          have hp9 : ((d ++ [i]).map ref ++ (leftOf es (seen.push bn)).toList.map (·.key)).Perm ((locs B n).map ref) := by
            refine List.Perm.trans ?_ HD.out.2.2.1
            rw [List.map_append, List.append_assoc]
            have hk := (left_cons es seen _ HES.out.2.2.1 HE.out.1).map (fun x : MapEntry => x.key)
            exact List.Perm.append_left _ hk.symm
          rw [show flat (encS C) d ++ encS C i = flat (encS C) (d ++ [i]) from (flat_snoc' _ _ _).symm] at hown9
          have HF := Lib.hid (And.intro hr9 (And.intro hown9 (And.intro hb9 hp9)))
          have HSZ := Lib.hid (show g8 + 1 + 1 ≤ w9.heap.size from by have := (Array.getElem?_eq_some_iff.1 hr9).1; have := hgr.size; have := H5.out.2.2.2; have := HD.out.2.2.2; omega)
          clear hgr hr9 hb9 hp9 hown9 hx6 hb6 hg9
          go_wp2_with fail
          refine ⟨⟨seen.push bn, clock, d ++ [i], Nat.le_refl _, by simp, HF.out.1, by simpa using HF.out.2.1, HF.out.2.2.1, HF.out.2.2.2, HSZ.out⟩, ?_⟩
          rw [iter_seen HF.out.1, iter_seen HIT.out]
          exact left_shrinks es seen _ HE.out.1
      -- ]
    case rest =>
      obtain ⟨d, hdp, rfl, HD⟩ := hcut
      have hdn : d.length ≤ n := by rw [hdp.length_eq]; exact locs_le B n
      have hcw := Lib.hid (HX.out.1.nearOf HX.out.2.1 HSN.out.near)
      have hdlt := owns_lt HD.out.1
      have h70 := (HSN.out.near.block (g5 + 1 + 1) (Array.getElem?_eq_some_iff.1 HX.out.2.2.1).1 (by omega) (by omega)).trans HX.out.2.2.1
      have HDP := Lib.hid (And.intro hdp h70)
      clear hdp h70 hes hs3 hz0 hz1 hz2 hi
      go_upto_region 31 with (go_at_call 28; refine (sortS_any C g8 d.length es.size g8 198 d _ (by omega) rfl HD.out.1).mono ?_; rintro e w6 ⟨rfl, d', hp6, hw6, ho6, hg6⟩; have hb6 := HD.out.2.grown hg6 (by omega) (fun j h => by cases h; exact Nat.le_refl _); have hcx6 := hcw.out.below (by rw [HG8.out]; exact hb6); have q1 := hcx6.opt; have q2 := hcx6.mini)
      have h76 := (hb6.block (g5 + 1 + 1) (by have := (Array.getElem?_eq_some_iff.1 HDP.out.2).1; rw [HG8.out] at this; exact this)).trans HDP.out.2
      have hr7 : w6.rangeAt (g5 + 1 + 1) 0 freq0.toList := fun j v hv => by rw [Nat.zero_add]; exact (Lib.cell_of_heap h76 j).trans (by simpa using hv)
      have HR7 := Lib.hid hr7
      have hu188 := Tryz.underlying188
      have hi188 : (Tryz.prog.info? 188).map (·.size) = some freq0.toList.length := by kernel_rfl
      have H6 := Lib.hid (And.intro hp6 (And.intro hw6 (And.intro ho6 (And.intro hb6 hcx6))))
      have hg70 : g5 + 1 + 1 < w6.heap.size := (Array.getElem?_eq_some_iff.1 h76).1
      clear hp6 hw6 ho6 hb6 hcx6 hg6 h76 hr7 q1 q2
      go_cut [18] from 31 (fun s18 w' => ∃ b : Nat, s18 = .pointer (some ⟨b, 0, none⟩) ∧ w6.heap.size ≤ b ∧ Hid (w'.heap[b]? = some (.cells #[.string cssHead, .string cssTail] 201 (0, 0)) ∧ Below w6.heap.size w6 w'))
      case first =>
        -- [
        as_aux_lemma =>
        go_region_held3 (fun w' => Below w6.heap.size w6 w' ∧ w'.rangeAt (g5 + 1 + 1) 0 freq0.toList) (first | exact s7_drew HR7.out | exact s7_call hb8 (by assumption) | exact h9 | exact s7_alloc _ h9 | exact s7_alloc _ (by assumption) | exact s7_set h9 hs8 (Nat.ne_of_lt (Nat.lt_of_lt_of_le hg70 hs8)) _ _ | exact s7_set h9 (Nat.le_refl _) (Nat.ne_of_lt hg70) _ _ | assumption) (first | (go_at_call 29; refine (default_any _).mono ?_; rintro e w8 ⟨rfl, hb8⟩; have hs8 : w6.heap.size ≤ w8.heap.size := Nat.le_trans (by first | exact Nat.le_refl _ | (simp; done) | (simp; omega)) hb8.size; first | have z8 : w8.heap[w6.heap.size]? = some (.cells #[.string { data := #[] }, .string { data := #[] }] 201 (0, 0)) := (hb8.block _ (by simp)).trans (heap_alloc_new w6.drew _) | skip) | (go_at_call 30; refine (shuffle_any _).mono ?_; rintro e w9 ⟨rfl, hb9⟩; have h9 := s7_call hb9 (by assumption); first | (have z9 : w9.heap[w8.heap.size]? = some (.cells #[.string { data := #[] }, .string { data := #[] }] 201 (0, 0)) := (hb9.block _ (by simp)).trans (heap_alloc_new w8 _); have y0 := Lib.cell_of_heap z9 0; have y1 := Lib.cell_of_heap z9 1; simp only [List.getElem?_toArray, List.getElem?_cons_zero, List.getElem?_cons_succ] at y0 y1; have g0 := Lib.frozen_of_heap z9 0; have g1 := Lib.frozen_of_heap z9 1) | (have z9 := (hb9.block _ (Array.getElem?_eq_some_iff.1 z8).1).trans z8; have y0 := Lib.cell_of_heap z9 0; have y1 := Lib.cell_of_heap z9 1; simp only [List.getElem?_toArray, List.getElem?_cons_zero, List.getElem?_cons_succ] at y0 y1; have g0 := Lib.frozen_of_heap z9 0; have g1 := Lib.frozen_of_heap z9 1) | skip))
        all_goals
          have hfin := And.left (show Below w6.heap.size w6 _ ∧ World.rangeAt _ (g5 + 1 + 1) 0 freq0.toList by assumption)
          go_wp2_with fail
          go_meet
          case rel => exact ⟨_, rfl, (by first | exact h9.1.size | exact hs8 | exact Nat.le_refl _), Lib.hid (And.intro (by first | exact heap_alloc_new w9 _ | exact set_two' z9) hfin)⟩
        -- ]
      case rest =>
        obtain ⟨mb, rfl, hmb6, HMB⟩ := hcut
        obtain ⟨fg, hfg, hsg⟩ := HSN.out.glob
        have hz5 : g5 ≤ W0.heap.size := by have := (Array.getElem?_eq_some_iff.1 HX.out.2.2.1).1; omega
        have hb5 : Below g5 w1 wc := ((below_near HX.out.2.2.2.1 HSN.out.near (by omega) hz5).trans (H6.out.2.2.2.1.mono (by rw [← HG8.out]; exact Nat.le_trans hz5 HSN.out.near.size))).trans (HMB.out.2.mono (Nat.le_trans (Nat.le_trans hz5 HSN.out.near.size) H6.out.2.2.2.1.size))
        have hb5w : Below w1.heap.size w1 wc := by rw [HX.out.2.2.2.2]; exact hb5
        have hml := HC.out.2.2.1.lt
        have hul := HC.out.2.2.2.1.lt
        rw [HX.out.2.2.2.2] at hml hul
        have hst0 : Mint wc mp um f0 U (globs S B n) d' 0 0 [] u0 wc := Mint.start (Near.refl _ _ _) (HC.out.2.2.1.below hb5w) (HC.out.2.2.2.1.below hb5w) HC.out.2.2.2.2
        have hgl : MapIs Tryz.prog 9 wc g5 fg := (hfg.below (by rw [HG8.out]; exact H6.out.2.2.2.1)).below HMB.out.2
        have hrow := own_below'' H6.out.2.2.1 HMB.out.2
        have hglt := hgl.lt
        have hmblt := (Array.getElem?_eq_some_iff.1 HMB.out.1).1
        have hdl' : d'.length = d.length := H6.out.1.length_eq
        have hg8lt : g8 < wc.heap.size := owns_lt hrow
        have hg5g8 : g5 ≤ g8 := by rw [← HG8.out]; exact Nat.le_trans hz5 HSN.out.near.size
        have hmb8 : g5 ≤ mb := by have := H6.out.2.2.2.1.size; omega
        have HW := Lib.hid (And.intro hst0 (And.intro hgl (And.intro hsg (And.intro hrow (And.intro hb5w HC.out.2.1.two)))))
        clear hst0 hgl hsg hrow hb5w hb5 hfg
        have hG4 : (globs S B n).length ≤ 4096 := Nat.le_trans (globs_le S B n) hn
        go_upto_block 6 with fail
        go_wp2_with fail
        go_loopw [19, 170] (fun v19 v170 wr => ∃ (k m : Nat) (ps : List (Nat × Nat)) (u : Value → Option Value), k ≤ d'.length ∧ v170 = .int .i64 k ∧ v19 = .int .i64 m ∧ Hid (Mint wc mp um f0 U (globs S B n) d' k m ps u wr)) (fun _ v170 _ => d'.length - (intOf v170).toNat)
        case atStart => exact ⟨0, 0, [], u0, Nat.zero_le _, rfl, rfl, HW.out.1⟩
        case round =>
          obtain ⟨k, m, ps, u, hk, rfl, rfl, HK⟩ := hrel
          by_cases hlt : k < d'.length
          ·
            -- [
            as_aux_lemma =>
            obtain ⟨i, hi⟩ : ∃ i, d'[k]? = some i := ⟨_, List.getElem?_eq_getElem hlt⟩
            have hown := own_block HW.out.2.2.2.1 (HK.out.near.block g8 hg8lt (by omega) (by omega))
            obtain ⟨c0, c1, c2, c3⟩ := encS_at C d' k i hi hdl' hown
            have hltd : k < d.length := by omega
            have b0 : (0 : Int) ≤ (k : Int) := by omega
            have b1 : (k : Int) < (d.length : Int) := by omega
            have HI := Lib.hid (And.intro hi hown)
            clear hi hown
            go_upto_region 36 with fail
            refine wp_forget (fun w' => Below wr.heap.size wr w' ∧ w'.heap[wr.heap.size]? = some (.cells #[.int .u32 1, .int .u32 1, .int .u32 (i : Int), .int .u32 (C i)] 198 (0, 0))) ⟨(Below.refl _ _).alloc (Nat.le_refl _) _, heap_alloc_new wr _⟩ ?_
            clear c0 c1 c2 c3
            rintro w2 ⟨hb2, h2⟩
            have hin : i < n := locs_lt (HDP.out.1.mem_iff.1 (H6.out.1.mem_iff.1 (List.mem_of_getElem? HI.out.1)))
            obtain ⟨kl, hkl⟩ := ref_key i (by omega)
            obtain ⟨m', n1, n2, n3, n4, n5⟩ := HK.out.slot (by omega) hG4 hUn
            have hmk : m ≤ k * 1056768 := HK.out.bound
            have hmm : m ≤ 4400000000 := by omega
            have hmb0 : wr.heap[mb]? = some (.cells #[.string cssHead, .string cssTail] 201 (0, 0)) := (HK.out.near.block mb hmblt (by omega) (by omega)).trans HMB.out.1
            have hmb2 := (hb2.block mb (Array.getElem?_eq_some_iff.1 hmb0).1).trans hmb0
            have y0 := Lib.cell_of_heap hmb2 0
            have y1 := Lib.cell_of_heap hmb2 1
            simp only [List.getElem?_toArray, List.getElem?_cons_zero, List.getElem?_cons_succ] at y0 y1
            have HKL := Lib.hid hkl
            have HN := Lib.hid (And.intro n3 (And.intro n4 n5))
            have HM := Lib.hid hmb0
            have H2 := Lib.hid (And.intro hb2 h2)
            clear hkl n3 n4 n5 hmb0 hmb2 hb2 h2
            go_wp2_with (go_at_call 31; refine (number_nm m _ _ rfl (by omega)).mono ?_; rintro e w3 ⟨rfl, hb3⟩)
            have hb3r := H2.out.1.trans (hb3.mono H2.out.1.size)
            have h3 := (hb3.block wr.heap.size (Array.getElem?_eq_some_iff.1 H2.out.2).1).trans H2.out.2
            have H3' := Lib.hid (And.intro hb3r h3)
            clear hb3 hb3r h3 y0 y1
            go_loopw [19, 22] (fun v19 v22 wk => ∃ j : Nat, m ≤ j ∧ j ≤ m' ∧ v19 = .int .i64 j ∧ v22 = .string (nm j) ∧ Hid (Below wr.heap.size wr wk ∧ wk.heap[wr.heap.size]? = some (.cells #[.int .u32 1, .int .u32 1, .int .u32 (i : Int), .int .u32 (C i)] 198 (0, 0)))) (fun v19 _ _ => m' - (intOf v19).toNat)
            case atStart => exact ⟨m, Nat.le_refl _, n1, rfl, rfl, H3'.out.1, H3'.out.2⟩
            case round =>
              obtain ⟨j, hj1, hj2, rfl, rfl, HJ⟩ := hrel
              have gl := (HW.out.2.1.block (HK.out.near.block g5 hglt (by omega) (by omega))).below HJ.out.1
              have ul := HK.out.used.below HJ.out.1
              have hsz : (nm j).size ≤ 1048576 := nm_short (by omega)
              have j0 : (0 : Int) ≤ (j : Int) := by omega
              have j9 : (j : Int) ≤ 5000000000 := by omega
              by_cases hjl : j < m'
              · have hmbk := (HJ.out.1.block mb (Array.getElem?_eq_some_iff.1 HM.out).1).trans HM.out
                have y0 := Lib.cell_of_heap hmbk 0
                have y1 := Lib.cell_of_heap hmbk 1
                simp only [List.getElem?_toArray, List.getElem?_cons_zero, List.getElem?_cons_succ] at y0 y1
                clear hmbk
                rcases HN.out.2.2 j hj1 hjl with hg | ⟨hg, hu⟩
                · have e1 := set_yes gl HW.out.2.2.1 hsz hg
                  clear gl ul hg hsz
                  go_wp2_with (go_at_call 31; refine (number_nm (j + 1) _ _ (by simp) (by omega)).mono ?_; rintro e w5 ⟨rfl, hb5⟩)
                  exact ⟨⟨j + 1, by omega, by omega, by go_num, rfl, HJ.out.1.trans (hb5.mono HJ.out.1.size), (hb5.block _ (Array.getElem?_eq_some_iff.1 HJ.out.2).1).trans HJ.out.2⟩, by simp [intOf]; omega⟩
                · have e1 := set_no gl HW.out.2.2.1 hsz hg
                  have e2 := set_yes ul HK.out.set hsz hu
                  clear gl ul hg hu hsz
                  go_wp2_with (go_at_call 31; refine (number_nm (j + 1) _ _ (by simp) (by omega)).mono ?_; rintro e w5 ⟨rfl, hb5⟩)
                  exact ⟨⟨j + 1, by omega, by omega, by go_num, rfl, HJ.out.1.trans (hb5.mono HJ.out.1.size), (hb5.block _ (Array.getElem?_eq_some_iff.1 HJ.out.2).1).trans HJ.out.2⟩, by simp [intOf]; omega⟩
              · obtain rfl : j = m' := by omega
                have e1 := set_no gl HW.out.2.2.1 hsz HN.out.1
                have e2 := set_no ul HK.out.set hsz HN.out.2.1
                have z1 := Lib.cell_of_heap HJ.out.2 1
                have z2 := Lib.cell_of_heap HJ.out.2 2
                simp only [List.getElem?_toArray, List.getElem?_cons_zero, List.getElem?_cons_succ] at z1 z2
                have HU := Lib.hid ul
                have HP2 := Lib.hid (HK.out.props.below HJ.out.1)
                have HSZ := Lib.hid hsz
                clear gl ul hsz
                go_wp2_with (first | (refine wpList_put_map _ rfl _ _ _ _ rfl 44 9 K44 Tryz.underlying156 mp (puts f0 ps) rfl HP2.out _ _ kl rfl rfl HKL.out ?_; intro w' hm' hg'; have HQ := Lib.hid (And.intro hm' hg'); clear hm' hg') | (refine wpList_put_map _ rfl _ _ _ _ rfl 9 4 K9 Tryz.underlying35 um u rfl (HU.out.grown HQ.out.2 (by intro e; exact HW.out.2.2.2.2.2 (Option.some.inj e).symm)) _ _ _ rfl rfl (str_key _ HSZ.out) ?_; intro w'' hm'' hg''; have HQ2 := Lib.hid (And.intro hm'' hg''); clear hm'' hg''))
                exact ⟨⟨k + 1, j, ps ++ [(i, j)], _, by omega, by go_num, rfl, HK.out.step HW.out.2.2.2.2.2 HI.out.1 n1 n2 HN.out.1 HN.out.2.1 HJ.out.1 HQ.out.1 HQ.out.2 (Below.refl _ _) HQ2.out.1 HQ2.out.2⟩, by simp [intOf]; omega⟩
            -- ]
          · have hkn : k = d'.length := by omega
            subst hkn
            go_wp2_with fail
            refine leaves_cons (f := 24) (args := #[.pointer none, .string { data := #[77, 97, 110, 103, 108, 101, 32, 108, 111, 99, 97, 108, 32, 67, 83, 83] }]) (by simp) (by simp [go_sem]) ?_
            refine (end_nil _ _).mono ?_
            rintro e u' w'' ⟨rfl, rfl, rfl⟩
            exact ⟨_, results_none rfl _ _ _, rfl, d', m, ps, u, H6.out.1.trans HDP.out.1, H6.out.2.1, (Near.below HW.out.2.2.2.2.1).trans HK.out.near, HK.out.bound, HK.out.fsts, HK.out.snds, HK.out.free, HK.out.props, HK.out.used, HK.out.set⟩
end Go.Proofs.YtokehapgddicjaaGreatFmt
