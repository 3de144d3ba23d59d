/- Law 27's walk: the callees. -/
import Derived.Test.YtgdkncphmbdpjaaDoorQ1
import Derived.Test.YtgdkncphmbdpjaaDoorDecText
import Derived.Test.YtgdkncphmbdpjaaDoorI4
import Derived.Deep.RegionWith
namespace Go.Proofs.YtgdkncphmbdpjaaDoor
open Go.RowKit

set_option maxRecDepth 100000 in
set_option maxHeartbeats 2000000 in
theorem pcb_dec (s : ByteArray) (neg : Bool) (m k y r : Nat) (n : Int) (w : World) (h : Dec s neg m k) (hv : PowVars w) (hr : r < 18446744073709551616)
    (hmul : floatBits .mul .f64 (fdec neg m k) y = some r) (hn : floatToIntVal .f64 (roundBits r) .i64 = some n) :
    Calls Tryd.prog 20 #[tokV s 30, .float .f64 y] w (Taken w n) := by
  have hmu := fun (t : TypeId) (wx : World) => run_float_arith (P := Tryd.prog) wx .mul t .f64 _ _ _ hmul
  have hcv := fun (wx : World) => run_convert_float_int (P := Tryd.prog) wx 26 3 .f64 .i64 _ _ (by kernel_rfl) Tryd.underlying3 hn
  have HP := Lib.hid (fun (wx : World) hv' => ParseFloat_dec s neg m k wx h hv')
  have HR := Lib.hid (fun (wx : World) => Round_any r wx hr)
  clear h hmul hn
  have HC := Lib.hid (show (n < 0 ∧ clampI n = 0) ∨ (¬ n < 0 ∧ 255 < n ∧ clampI n = 255) ∨ (¬ n < 0 ∧ ¬ 255 < n ∧ clampI n = n ∧ IntKind.u32.wrap n = n) from by
    unfold clampI
    by_cases h1 : n < 0
    · exact Or.inl ⟨h1, if_pos h1⟩
    · rw [if_neg h1]
      by_cases h2 : 255 < n
      · exact Or.inr (Or.inl ⟨h1, h2, if_pos h2⟩)
      · exact Or.inr (Or.inr ⟨h1, h2, if_neg h2, by rw [IntKind.wrap_u32]; omega⟩))
  unfold Taken
  go_enter Tryd.func20, Tryd.ntmps20
  go_wp2_with fail
  refine (HP.out _ (hv.below ((Below.refl _ _).alloc (Nat.le_refl _) _))).mono ?_
  rintro e w1 ⟨rfl, rfl⟩
  go_wp2_with fail
  refine (HR.out _).mono ?_
  rintro e w1 ⟨rfl, rfl⟩
  rcases HC.out with ⟨h1, h2⟩ | ⟨h1, h2, h3⟩ | ⟨h1, h2, h3, h4⟩
  · go_wp2
    go_ret2
    exact ⟨by rw [h2]; rfl, (Below.refl _ _).alloc (Nat.le_refl _) _⟩
  · go_wp2
    go_ret2
    exact ⟨by rw [h3]; rfl, (Below.refl _ _).alloc (Nat.le_refl _) _⟩
  · go_wp2
    go_ret2
    exact ⟨by rw [h3]; rfl, (Below.refl _ _).alloc (Nat.le_refl _) _⟩

set_option maxRecDepth 100000 in
set_option maxHeartbeats 2000000 in
theorem pab_dec (s : ByteArray) (d : Nat) (n : Int) (w : World) (h : Dec s false d 3) (hv : PowVars w) (hn : alphaInt d = some n) :
    Calls Tryd.prog 21 #[tokV s 30] w (Taken w n) := by
  unfold alphaInt at hn
  cases hr : floatBits .mul .f64 (fdec false d 3) (fint false 255) with
  | none => rw [hr] at hn; cases hn
  | some r =>
    rw [hr, Option.bind_some] at hn
    have e : fint false 255 = 4643176031446892544 := by decide +kernel
    rw [e] at hr
    have HP := Lib.hid (fun wx (hb : Below w.heap.size w wx) => pcb_dec s false d 3 4643176031446892544 r n wx h (hv.below hb) (Ieee.Format.mul_lt Ieee.double hr) hr hn)
    clear h hr hn
    unfold Taken at *
    go_enter Tryd.func21, Tryd.ntmps21
    go_wp2_with fail
    refine (HP.out _ ((Below.refl _ _).alloc (Nat.le_refl _) _)).mono ?_
    rintro e w1 ⟨rfl, hb1⟩
    go_wp2
    go_ret2
    exact ⟨rfl, ((Below.refl _ _).alloc (Nat.le_refl _) _).trans (hb1.mono (by simp))⟩

set_option maxRecDepth 100000 in
set_option maxHeartbeats 2000000 in
theorem zz15_dec (s : ByteArray) (d : Nat) (n : Int) (w : World) (h : Dec s false d 3) (hv : PowVars w) (hn : alphaInt d = some n) :
    Calls Tryd.prog 15 #[.string s] w (Taken w n) := by
  have HP := Lib.hid (fun wx (hb : Below w.heap.size w wx) => pab_dec s d n wx h (hv.below hb) hn)
  clear h hn
  unfold Taken at *
  go_enter Tryd.func15, Tryd.ntmps15
  go_wp2_with (go_at_call 21; refine (HP.out _ (Below.refl _ _)).mono ?_; rintro e w1 ⟨rfl, hb1⟩)
  go_ret2
  exact ⟨rfl, hb1⟩

theorem itoa_digs (v : Nat) (w : World) (h : v < 1000) : Calls Tryd.prog 9 #[.int .i64 v] w fun e w' => ∃ N, e = .returned (.string ⟨(digs v N).toArray⟩) ∧ 0 < N ∧ N ≤ 3 ∧ v < 10 ^ N ∧ Below w.heap.size w w' := by
  rcases Nat.eq_zero_or_pos v with rfl | hv
  · refine (itoa_zero w).mono ?_
    rintro e w' ⟨rfl, rfl⟩
    exact ⟨1, rfl, by omega, by omega, by omega, Below.refl _ _⟩
  · refine (itoa_pos_tight v w hv (by omega)).mono ?_
    rintro e w' ⟨N, rfl, h1, h2, h3, h4, h5⟩
    refine ⟨N, rfl, h1, ?_, h3, h4⟩
    have h6 : (10 : Nat) ^ (N - 1) < 10 ^ 3 := by omega
    have := (Nat.pow_lt_pow_iff_right (by omega : 1 < 10)).1 h6
    omega

/-- Three digits at the block B. -/
def Three (B v : Nat) (wx : World) : Prop := ∀ j (hj : j < (digs v 3).length), wx.cell? ⟨B, j, none⟩ = some (.int .u8 ((digs v 3)[j].toNat : Int))
theorem Three.below {B v : Nat} {wx wy : World} (h : Three B v wx) (hb : Below wx.heap.size wx wy) : Three B v wy := fun j hj => (hb.cell (block_lt_of_cell (h j hj))).trans (h j hj)
theorem Three.text {B v : Nat} {wx : World} (h : Three B v wx) : (convert 34 9 (.slice (some ⟨B, 0, none⟩) 3 3)).run Tryd.prog wx = .ok (.string ⟨(digs v 3).toArray⟩) wx := by
  refine run_convert_bytes_back (P := Tryd.prog) wx 34 9 5 ⟨B, 0, none⟩ 3 (digs v 3) Tryd.underlying34 Tryd.underlying5 Tryd.underlying9 (fun j hj => ?_)
  have ha : (⟨B, 0, none⟩ : Addr).add j = ⟨B, j, none⟩ := by unfold Addr.add; split <;> simp_all
  rw [ha]; exact h j hj

theorem text_dec (d N : Nat) (h1 : 0 < N) (h2 : N ≤ 3) (h3 : d / 1000 < 10 ^ N) (hd : d < 65536) : Dec (({ data := (digs (d / 1000) N).toArray } ++ { data := #[46] } : ByteArray) ++ { data := (digs (d % 1000) 3).toArray }) false d 3 := by
  have l1 := digs_length (d / 1000) N
  have l2 := digs_length (d % 1000) 3
  have hsz : ((({ data := (digs (d / 1000) N).toArray } ++ { data := #[46] } : ByteArray) ++ { data := (digs (d % 1000) 3).toArray }) : ByteArray).size = N + 1 + 3 := by
    rw [ByteArray.size_append, ByteArray.size_append]
    show (digs (d / 1000) N).toArray.size + 1 + (digs (d % 1000) 3).toArray.size = _
    simp [l1, l2]
  have hdat : ∀ i (h : i < ((({ data := (digs (d / 1000) N).toArray } ++ { data := #[46] } : ByteArray) ++ { data := (digs (d % 1000) 3).toArray }) : ByteArray).size), ((({ data := (digs (d / 1000) N).toArray } ++ { data := #[46] } : ByteArray) ++ { data := (digs (d % 1000) 3).toArray }) : ByteArray)[i] = ((digs (d / 1000) N ++ [46]) ++ digs (d % 1000) 3)[i]'(by rw [hsz] at h; simp [l1, l2]; omega) := by
    intro i h
    simp [ByteArray.getElem_eq_getElem_data, ByteArray.data_append]
  have hp : 10 ^ (N + 3) = 10 ^ N * 1000 := Nat.pow_add ..
  refine dec_of _ false d N 3 (by rw [hsz]; simp) h1 (by omega) (by omega) (by rw [hp]; omega) (by omega) (fun h => by cases h) ?_ ?_ ?_
  · intro j hj h
    rw [hdat]
    have e : (digs (d / 1000) N ++ [46] ++ digs (d % 1000) 3)[false.toNat + j]'(by simp [l1, l2]; omega) = (digs (d / 1000) N)[j]'(by omega) := by
      simp [l1, hj]
    rw [e, digs_get, digit_nat]
    have : d / 1000 / 10 ^ (N - 1 - j) = d / 10 ^ (N + 3 - 1 - j) := by
      rw [Nat.div_div_eq_div_mul, show (1000 : Nat) = 10 ^ 3 by decide, ← Nat.pow_add]; congr 2; omega
    rw [this]
  · intro h
    rw [hdat]
    simp [l1]
  · intro j hj h
    rw [hdat]
    have e : (digs (d / 1000) N ++ [46] ++ digs (d % 1000) 3)[false.toNat + (N + 1 + j)]'(by simp [l1, l2]; omega) = (digs (d % 1000) 3)[j]'(by omega) := by
      rw [List.getElem_append_right (by simp [l1])]
      congr 1
      simp [l1]
    rw [e, digs_get, digit_nat]
    have hj3 : j = 0 ∨ j = 1 ∨ j = 2 := by omega
    rcases hj3 with rfl | rfl | rfl <;> simp <;> omega

/-- The text of d/1000 before the point. -/
def Front (d : Nat) (t : ByteArray) : Prop := ∃ N, t = ⟨(digs (d / 1000) N).toArray⟩ ∧ 0 < N ∧ N ≤ 3 ∧ d / 1000 < 10 ^ N
theorem Front.size {d : Nat} {t : ByteArray} (h : Front d t) : t.size ≤ 3 := by
  obtain ⟨N, rfl, h1, h2, h3⟩ := h
  show (digs (d / 1000) N).toArray.size ≤ 3
  simp [digs_length, h2]
theorem front_any (d : Nat) (wx : World) (h : d < 65536) : Calls Tryd.prog 9 #[.int .i64 ((d : Int) / 1000)] wx fun e w' => ∃ t, e = .returned (.string t) ∧ Front d t ∧ Below wx.heap.size wx w' := by
  have := itoa_digs (d / 1000) wx (by omega)
  rw [show ((d / 1000 : Nat) : Int) = (d : Int) / 1000 by omega] at this
  refine this.mono ?_
  rintro e w' ⟨N, rfl, h1, h2, h3, h4⟩
  exact ⟨_, rfl, ⟨N, rfl, h1, h2, h3⟩, h4⟩

theorem alpha_clamp (d : Nat) (h : d < 65536) : ∃ n, alphaInt d = some n ∧ ((1000 ≤ (d : Int) ∧ clampI n = 255) ∨ (¬ 1000 ≤ (d : Int) ∧ 255 * (d : Int) % 1000 < 500 ∧ clampI n = 255 * (d : Int) / 1000) ∨ (¬ 1000 ≤ (d : Int) ∧ 500 < 255 * (d : Int) % 1000 ∧ clampI n = 255 * (d : Int) / 1000 + 1) ∨
    (¬ 1000 ≤ (d : Int) ∧ 255 * (d : Int) % 1000 = 500 ∧ (clampI n = 255 * (d : Int) / 1000 ∨ clampI n = 255 * (d : Int) / 1000 + 1))) := by
  rcases Nat.lt_or_ge d 1000 with hl | hg
  · have := allIn_at alpha_all d (Nat.zero_le _) (by omega)
    unfold alphaOk at this
    split at this
    · rename_i n hn
      refine ⟨n, hn, ?_⟩
      simp only [Bool.or_eq_true, Bool.and_eq_true, beq_iff_eq, decide_eq_true_eq] at this
      unfold clampI
      omega
    · cases this
  · obtain ⟨n, hn, hb⟩ := alpha_big d hg h
    refine ⟨n, hn, Or.inl ⟨by omega, ?_⟩⟩
    unfold clampI
    omega

set_option maxRecDepth 100000 in
set_option maxHeartbeats 2000000 in
theorem law4_any (d : Nat) (w : World) (h1 : d < 65536) (hv : PowVars w) : Calls Tryd.prog 6 #[.int .u16 d] w (LawOk w) := by
  obtain ⟨n, hn0, hcl⟩ := alpha_clamp d h1
  have HZ := Lib.hid (fun s wx hs hv' => zz15_dec s d n wx hs hv' hn0)
  have HV := Lib.hid hv
  have HC := Lib.hid hcl
  clear hn0 hcl hv
  unfold Taken at HZ
  generalize clampI n = c at HZ HC
  have HI := Lib.hid (fun wx => front_any d wx h1)
  obtain ⟨u, hu⟩ : ∃ u : ByteArray, u = ⟨(digs (d % 1000) 3).toArray⟩ := ⟨_, rfl⟩
  have HD := Lib.hid (show ∀ t, Front d t → Dec ((t ++ { data := #[46] } : ByteArray) ++ u) false d 3 from by
    rintro t ⟨N, rfl, a, b, c⟩
    rw [hu]; exact text_dec d N a b c h1)
  have hus : u.size = 3 := by rw [hu]; show (digs (d % 1000) 3).toArray.size = 3; simp [digs_length]
  go_enter Tryd.func6, Tryd.ntmps6
  go_wp2_with fail
  generalize hw1 : (w.alloc _) = w1
  have hb1 : Below w.heap.size w w1 := by rw [← hw1]; exact (Below.refl _ _).alloc (Nat.le_refl _) _
  have ht : Three w.heap.size (d % 1000) w1 := by
    rw [← hw1]
    intro j hj
    rw [digs_length] at hj
    have hj3 : j = 0 ∨ j = 1 ∨ j = 2 := by omega
    rw [digs_get, digit_nat, cell_of_row _ _ _ _ _ _ (heap_alloc_new _ _)]
    rcases hj3 with rfl | rfl | rfl <;> simp <;> omega
  clear hw1
  have ht2 : Three w.heap.size (d % 1000) w1.drew := fun j hj => ht j hj
  have hx := ht2.text
  rw [← hu] at hx
  have HX := Lib.hid (show ∀ wx, Below w1.drew.heap.size w1.drew wx → (convert 34 9 (.slice (some ⟨w.heap.size, 0, none⟩) 3 3)).run Tryd.prog wx = .ok (.string u) wx from fun wx hb => by
    rw [hu]; exact (ht2.below hb).text)
  have HB := Lib.hid hb1.drew
  clear ht2 ht hb1 hu
  have hwr : IntKind.i64.wrap ((d : Int) / 1000) = (d : Int) / 1000 := by rw [IntKind.wrap_i64]; omega
  go_region_with (go_at_call 9; refine (HI.out _).mono ?_; rintro e w2 ⟨t, rfl, hn, hb2⟩; have hx2 := HX.out _ hb2; have hts := hn.size; have HN := Lib.hid (And.intro hn hb2); clear hn hb2)
  all_goals
    have hb3 := HB.out.trans ((HN.out.2.mono (Nat.le_trans HB.out.size (Nat.le_refl _))))
    go_wp2_with fail
    refine (HZ.out _ _ (HD.out _ HN.out.1) (HV.out.below hb3)).mono ?_
    rintro e w4 ⟨rfl, hb4⟩
    have hbl := Lib.hid (hb3.trans (hb4.mono hb3.size))
    clear hb3 hb4
    rcases HC.out with ⟨c1, c2⟩ | ⟨c1, c2, c3⟩ | ⟨c1, c2, c3⟩ | ⟨c1, c2, c3⟩
    all_goals
      have c0 := c1
    · subst c2
      go_wp2
      go_ret
      exact ⟨rfl, hbl.out⟩
    · subst c3
      go_wp2
      go_ret
      exact ⟨rfl, hbl.out⟩
    · subst c3
      go_wp2
      go_ret
      exact ⟨rfl, hbl.out⟩
    · rcases c3 with c3 | c3
      · subst c3
        go_wp2
        go_ret
        exact ⟨rfl, hbl.out⟩
      · subst c3
        go_wp2
        go_ret
        exact ⟨rfl, hbl.out⟩
theorem law4_wf (d : Int) (W : World) (hp : (Lit.int .u16 d).wf = true) (hv : PowVars W) : Calls Tryd.prog 6 #[.int .u16 d] W (LawOk W) := by
  have a := (Lit.wf_int_iff .u16 d).1 hp
  have e1 : IntKind.u16.min = 0 := by decide
  have e2 : IntKind.u16.max = 65535 := by decide
  rw [e1, e2] at a
  obtain ⟨d, rfl⟩ : ∃ v : Nat, d = (v : Int) := ⟨d.natAbs, by omega⟩
  exact law4_any d W (by omega) hv
end Go.Proofs.YtgdkncphmbdpjaaDoor
