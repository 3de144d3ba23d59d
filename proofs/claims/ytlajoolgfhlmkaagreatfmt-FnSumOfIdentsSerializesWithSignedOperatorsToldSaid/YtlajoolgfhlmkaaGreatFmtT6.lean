/- The law's walk. -/
import Derived.Test.YtlajoolgfhlmkaaGreatFmtT5
import Derived.Test.YtlajoolgfhlmkaaGreatFmtZ1
import Derived.Outline
namespace Go.Proofs.YtlajoolgfhlmkaaGreatFmt
open Go.RowKit
set_option linter.unusedVariables false

theorem not_of {b : Bool} (h : (!b) = false) : b = true := by cases b; cases h; rfl
theorem no_terms (w : World) : Calls Tryz.prog 8 #[] w fun e w' => e = .returned (.slice none 0 0) ∧ w = w' := by
  go_enter Tryz.func8, Tryz.ntmps8
  go_wp2
  go_ret
  exact ⟨rfl, rfl⟩
/-- Is term i subtracted; its kind. -/
def minusB (nb : Nat) (B : Nat → Bool) (i : Nat) : Bool := decide (0 < i) && decide (i < nb) && B i
def kindOf (nb : Nat) (B : Nat → Bool) (badAt : Int) (i : Nat) : Nat := if (i : Int) = badAt then 2 else if minusB nb B i = true then 1 else 0
theorem kind_bad {nb : Nat} {B : Nat → Bool} {badAt : Int} {i : Nat} (h : (i : Int) = badAt) : kindOf nb B badAt i = 2 := if_pos h
theorem kind_val {nb : Nat} {B : Nat → Bool} {badAt : Int} {i : Nat} (h : (i : Int) ≠ badAt) (h2 : minusB nb B i = false) : kindOf nb B badAt i = 0 := by simp [kindOf, h, h2]
theorem kind_neg {nb : Nat} {B : Nat → Bool} {badAt : Int} {i : Nat} (h : (i : Int) ≠ badAt) (h2 : minusB nb B i = true) : kindOf nb B badAt i = 1 := by simp [kindOf, h, h2]
def TermAt (S : Nat → ByteArray) (nb : Nat) (B : Nat → Bool) (badAt : Int) (i : Nat) (t : TD) : Prop := t.kd = kindOf nb B badAt i ∧ (t.kd ≤ 1 → t.s = S i)
structure Made (S : Nat → ByteArray) (nb : Nat) (B : Nat → Bool) (badAt : Int) (base : Nat) (W wr : World) (v : Value) (k : Nat) (ts : List TD) : Prop where
  len : ts.length = k
  desc : ∀ i t, ts[i]? = some t → TermAt S nb B badAt i t
  ok : ∀ t ∈ ts, t.ok wr
  own : wr.ownsRow base 51 2 v k (cellsD ts)
  bel : Below base W wr
  le : base ≤ wr.heap.size
theorem Made.step {S : Nat → ByteArray} {nb : Nat} {B : Nat → Bool} {badAt : Int} {base : Nat} {W wr w' : World} {v : Value} {k : Nat} {ts : List TD} (h : Made S nb B badAt base W wr v k ts) {P : TD → Prop} {e : Ending} (hm : More base ts P wr e w') (hP : ∀ t, P t → TermAt S nb B badAt k t) : ∃ v' ts', e = .returned v' ∧ Made S nb B badAt base W w' v' (k + 1) ts' := by
  obtain ⟨v', t, rfl, hp, hown, hok, hkeep, hb⟩ := hm
  refine ⟨v', ts ++ [t], rfl, by simp [h.len], ?_, ?_, by rw [h.len] at hown; exact hown, h.bel.trans hb, Nat.le_trans h.le hb.size⟩
  · intro i u hu
    rcases Nat.lt_or_ge i ts.length with hi | hi
    · rw [List.getElem?_append_left hi] at hu
      exact h.desc i u hu
    · rw [List.getElem?_append_right hi] at hu
      rcases Nat.eq_zero_or_pos (i - ts.length) with h0 | h0
      · rw [h0] at hu
        simp at hu
        subst hu
        rw [show i = k by have := h.len; omega]
        exact hP _ hp
      · rw [List.getElem?_eq_none (by simp; omega)] at hu
        cases hu
  · intro u hu
    rcases List.mem_append.1 hu with hu | hu
    · exact hkeep u (h.ok u hu)
    · simp at hu; subst hu; exact hok

def Next (S : Nat → ByteArray) (nb : Nat) (B : Nat → Bool) (badAt : Int) (base : Nat) (W : World) (k : Nat) (e : Ending) (w' : World) : Prop := ∃ v ts, e = .returned v ∧ Made S nb B badAt base W w' v (k + 1) ts
theorem owns_slice {w : World} {base : Nat} {e : TypeId} {size n : Nat} {v : Value} {xs : List Value} (h : w.ownsRow base e size v n xs) : ∃ a c, v = .slice a n c ∧ n ≤ c ∧ c ≤ maxLen := by
  rcases h.2 with ⟨rfl, rfl⟩ | ⟨g, cap, cur, rfl, _, _, h1, h2, _⟩
  · exact ⟨_, _, rfl, Nat.le_refl _, Nat.zero_le _⟩
  · exact ⟨_, _, rfl, h1, h2⟩
theorem terms_of {S : Nat → ByteArray} {nb : Nat} {B : Nat → Bool} {badAt : Int} {base : Nat} {W wr : World} {a : Option Addr} {k c : Nat} {ts : List TD} (h : Made S nb B badAt base W wr (.slice a k c) k ts) : Terms wr a ts := by
  refine ⟨fun h0 => ?_, h.ok⟩
  have hl := h.len
  rcases h.own.2 with ⟨e, e2⟩ | ⟨g, cap, cur, e, _, hgg, h1, h2, _, htk⟩
  · omega
  · cases e
    refine ⟨g, 0, rfl, fun i hi => ?_⟩
    rw [Nat.zero_add]
    have := World.ownsRow.cells h.own (g := g) rfl i ((cellsD ts).getD i undef) (by
      rw [List.getD_eq_getElem?_getD, List.getElem?_eq_getElem (by rw [cellsD_length]; exact hi)]
      rfl)
    rwa [Addr.add_mid, Nat.zero_add] at this
theorem Made.first {S : Nat → ByteArray} {nb : Nat} {B : Nat → Bool} {badAt : Int} {base : Nat} {W wr : World} {v : Value} {k : Nat} {ts : List TD} (h : Made S nb B badAt base W wr v k ts) : ∀ t, ts[0]? = some t → t.kd ≠ 1 := by
  intro t ht
  rw [(h.desc 0 t ht).1]
  simp only [kindOf, minusB]
  split
  · decide
  · simp
theorem Made.good {S : Nat → ByteArray} {nb : Nat} {B : Nat → Bool} {badAt : Int} {base : Nat} {W wr : World} {v : Value} {k : Nat} {ts : List TD} (h : Made S nb B badAt base W wr v k ts) (hb : ¬ (0 ≤ badAt ∧ badAt < k)) : ∀ t ∈ ts, t.kd ≤ 1 := by
  intro t ht
  obtain ⟨i, hi, e⟩ := List.getElem_of_mem ht
  have hd := (h.desc i t (by rw [List.getElem?_eq_getElem hi, e])).1
  rw [hd, kindOf, if_neg (by have := h.len; omega)]
  split <;> omega
theorem Made.bad {S : Nat → ByteArray} {nb : Nat} {B : Nat → Bool} {badAt : Int} {base : Nat} {W wr : World} {v : Value} {k : Nat} {ts : List TD} (h : Made S nb B badAt base W wr v k ts) (hb : 0 ≤ badAt ∧ badAt < k) : ∃ t ∈ ts, 1 < t.kd := by
  obtain ⟨n, rfl⟩ := Int.eq_ofNat_of_zero_le hb.1
  have hn : n < ts.length := by have := h.len; omega
  refine ⟨ts[n], List.getElem_mem _, ?_⟩
  rw [(h.desc n _ (List.getElem?_eq_getElem hn)).1, kind_bad rfl]
  decide
theorem tok_cell {w wr : World} {g n : Nat} {l : List Tok} (h : RowAt w (some ⟨g, 0, none⟩) (n * 7) fun i => (cellsT l).getD i undef) (hb : Below w.heap.size w wr) (hl : l.length = n) {q r : Nat} {t : Tok} (ht : l[q]? = some t) (hr : r < 7) : wr.cell? ⟨g, q * 7 + r, none⟩ = some (t.cells.getD r undef) := by
  have hq : q < n := by rw [← hl]; exact (List.getElem?_eq_some_iff.1 ht).1
  obtain ⟨b, o, e, hlt, hc⟩ := (h.below hb).blk (by omega)
  simp only [Option.some.injEq, Addr.mk.injEq, and_true] at e
  obtain ⟨rfl, rfl⟩ := e
  have := hc (q * 7 + r) (by omega)
  rw [Nat.zero_add] at this
  rw [this, List.getD_eq_getElem?_getD, List.getD_eq_getElem?_getD, cellsT_get l q r t ht hr]
theorem below_drewN {B : Nat} {a w : World} (h : Below B a w) (n : Nat) : Below B a (w.drewN n) := ⟨h.os, h.tape, h.output, h.size, h.block⟩
theorem pos_inf (w : World) : (Op.unary .neg (.float .f64 posInf)).run Tryz.prog w = .ok (.float .f64 negInf) w := by kernel_rfl
set_option maxRecDepth 100000 in
set_option maxHeartbeats 4000000 in
theorem law14_wf (namesa : Option Addr) (namesn namesc : Nat) (namesS : Nat → ByteArray) (nega : Option Addr) (negn negc : Nat) (negB : Nat → Bool) (badAt : Int) (ws : Int) (w : World)
    (hn : namesn ≤ maxLen) (hn2 : RowAt w namesa namesn (strAt namesS)) (hn3 : ∀ i, i < namesn → (namesS i).size ≤ maxLen) (hg : negn ≤ maxLen) (hg2 : RowAt w nega negn (boolAt negB)) :
    Calls Tryz.prog 3 #[.slice namesa namesn namesc, .slice nega negn negc, .int .i64 badAt, .int .u8 ws] w (LawOk w) := by
  have HZ := Lib.hid (zz_FnSumOfIdentsSerializesWithSignedOperators namesa namesn namesc namesS nega negn negc negB badAt ws w hn hn2 hg)
  have HR := Lib.hid hn2
  have HG := Lib.hid hg2
  unfold maxLen at hn hg
  clear hn2 hn3 hg2
  go_enter Tryz.func3, Tryz.ntmps3
  go_wp2_with (first
    | (go_at_call 4; refine HZ.out.mono ?_; rintro e wz ⟨b, rfl, hb, rfl⟩; have HB1 := Lib.hid hb; clear hb)
    | fail)
  · go_ret; exact ⟨rfl, Below.refl _ _⟩
  · go_ret; exact ⟨rfl, Below.refl _ _⟩
  rotate_left
  · go_ret; exact ⟨rfl, Below.refl _ _⟩
  have hb1 := not_of ‹(!b) = false›
  obtain ⟨z1, z2, z3⟩ := HB1.out hb1
  have hnn : namesn ≤ 65536 := by omega
  have hgn : negn ≤ 65536 := by omega
  have HZ2 := Lib.hid z2
  have HBT := Lib.hid hb1
  clear z2 hb1 z1 z3
  go_loop [9, 10] (fun t i => ∃ (k : Nat) (m : Int), k ≤ namesn ∧ i = .int .i64 k ∧ t = .int .i64 m ∧ 0 ≤ m ∧ m ≤ 1114112 + 1048576 * (k : Int)) (fun _ i => namesn - (intOf i).toNat)
  case atStart => exact ⟨0, _, Nat.zero_le _, rfl, rfl, by omega, by omega⟩
  case round =>
    obtain ⟨k, m, hk, rfl, rfl, hm0, hm1⟩ := hrel
    by_cases hlt : k < namesn
    · obtain ⟨b', o, ha, hbl, h2⟩ := HR.out.blk (by omega)
      have h3 := h2 k hlt
      have hz := HZ2.out k hlt
      simp only [szAt] at hz
      subst ha
      simp only [strAt] at h3
      generalize namesS k = x at h3 hz
      clear h2
      go_wp2
      go_round
      case rel => exact ⟨k + 1, _, hlt, by go_num, rfl, by omega, by omega⟩
      case measure => simp [intOf]; omega
    · clear hm1 hk
      go_wp2_with fail
      · go_ret; exact ⟨rfl, Below.refl _ _⟩
      · go_ret; exact ⟨rfl, Below.refl _ _⟩
      refine (clone_strs namesa namesn namesc namesS w (by omega) HR.out).mono ?_
      rintro e w1 ⟨na, nc, rfl, hnc, hN1, hb1⟩
      have H1 := Lib.hid (And.intro hnc (And.intro hN1 hb1))
      clear hnc hN1 hb1
      go_wp2_with fail
      refine (clone_bools nega negn negc negB w1 (by omega) (HG.out.below H1.out.2.2)).mono ?_
      rintro e w2 ⟨ba, bc, rfl, hbc, hN2, hb2⟩
      have H2 := Lib.hid (And.intro hbc (And.intro hN2 hb2))
      clear hbc hN2 hb2
      go_wp2_with fail
      refine (inf_any _).mono ?_
      rintro e w3 ⟨rfl, rfl⟩
      go_wp2_with fail
      refine (no_terms _).mono ?_
      rintro e w3 ⟨rfl, rfl⟩
      have hN := Lib.hid ((H1.out.2.1).below H2.out.2.2)
      have hB := Lib.hid H2.out.2.1
      have h2n : 2 ≤ namesn := by omega
      have hbw : Below w.heap.size w w2 := H1.out.2.2.trans (H2.out.2.2.mono H1.out.2.2.size)
      have HBW := Lib.hid hbw
      clear hbw
      go_wp2_with fail
      go_loopw [14, 15] (fun ts i wr => ∃ (k : Nat) (l : List TD), k ≤ namesn ∧ i = .int .i64 k ∧ Made namesS negn negB badAt w2.heap.size w2 wr ts k l) (fun _ i _ => namesn - (intOf i).toNat)
      case atStart => exact ⟨0, [], Nat.zero_le _, rfl, rfl, by simp, by simp, World.ownsRow_nil _ _ _ _, Below.refl _ _, Nat.le_refl _⟩
      case round =>
        obtain ⟨k', l, hk, rfl, hM⟩ := hrel
        by_cases hlt' : k' < namesn
        · obtain ⟨ta, tc, rfl, htc, htc2⟩ := owns_slice hM.own
          obtain ⟨nb, no, hna, hnl, h2⟩ := (hN.out.below hM.bel).blk (by omega)
          have c1 := h2 k' hlt'
          simp only [strAt] at c1
          clear h2
          have hng := fun wx => pos_inf wx
          have HM := Lib.hid hM
          have HNA := Lib.hid hna
          have h9 : (k' : Int) = badAt → ∀ f, IsInf f → Calls Tryz.prog 9 #[.slice ta k' tc, .string { data := #[] }, .float .f64 f] wr (Next namesS negn negB badAt w2.heap.size w2 k') := fun hb f hf => (withNumeric_any _ ta k' tc l f hf wr HM.out.len (by omega) HM.out.own HM.out.le).mono fun e w' h => HM.out.step h fun t ht => ⟨ht.trans (kind_bad hb).symm, fun h => by omega⟩
          have h10 : (k' : Int) ≠ badAt → minusB negn negB k' = true → Calls Tryz.prog 10 #[.slice ta k' tc, .int .u8 29, .string (namesS k')] wr (Next namesS negn negB badAt w2.heap.size w2 k') := fun hb hm => (withNegated_any _ ta k' tc l _ wr HM.out.len (by omega) HM.out.own HM.out.le).mono fun e w' h => HM.out.step h fun t ht => ⟨ht.1.trans (kind_neg hb hm).symm, fun _ => ht.2⟩
          have h11 : (k' : Int) ≠ badAt → minusB negn negB k' = false → Calls Tryz.prog 11 #[.slice ta k' tc, .int .u8 29, .string (namesS k')] wr (Next namesS negn negB badAt w2.heap.size w2 k') := fun hb hm => (withValue_any _ ta k' tc l _ wr HM.out.len (by omega) HM.out.own HM.out.le).mono fun e w' h => HM.out.step h fun t ht => ⟨ht.1.trans (kind_val hb hm).symm, fun _ => ht.2⟩
          have H9 := Lib.hid h9
          have H10 := Lib.hid h10
          have H11 := Lib.hid h11
          clear hM h9 h10 h11 htc htc2
          have hnb : nb < wr.heap.size := block_lt_of_cell c1
          clear hnl
          subst hna
          by_cases hm : 0 < k' ∧ k' < negn
          · obtain ⟨hm1, hm2⟩ := hm
            obtain ⟨bb, bo, hba, hbl, h2⟩ := (hB.out.below HM.out.bel).blk (by omega)
            have c2 := h2 k' hm2
            simp only [boolAt] at c2
            clear h2
            subst hba
            have hbb0 : bb < wr.heap.size := block_lt_of_cell c2
            have hmin : minusB negn negB k' = negB k' := by simp [minusB, hm1, hm2]
            cases hbk : negB k' with
            | true =>
              rw [hbk] at c2
              have HMI := Lib.hid (hmin.trans hbk)
              clear hmin hbl hbk
              by_cases hbad : (k' : Int) = badAt
              · have HBAD := Lib.hid hbad
                have hbb : ((k' : Int) == badAt) = true := by simpa using hbad
                clear hbad
                go_wp2_with fail
                all_goals
                  refine (H9.out HBAD.out _ (Or.inr rfl)).mono ?_
                  rintro e w5 ⟨v5, ts5, rfl, h5⟩
                  have H5 := Lib.hid h5
                  clear h5
                  go_wp2_with fail
                  go_roundw
                  case rel => exact ⟨k' + 1, ts5, hlt', by go_num, H5.out⟩
                  case measure => simp [intOf]; omega
              · have HBAD := Lib.hid hbad
                have hbb : ((k' : Int) == badAt) = false := by simpa using hbad
                clear hbad
                go_wp2_with fail
                all_goals
                  refine (H10.out HBAD.out HMI.out).mono ?_
                  rintro e w5 ⟨v5, ts5, rfl, h5⟩
                  have H5 := Lib.hid h5
                  clear h5
                  go_wp2_with fail
                  go_roundw
                  case rel => exact ⟨k' + 1, ts5, hlt', by go_num, H5.out⟩
                  case measure => simp [intOf]; omega
            | false =>
              rw [hbk] at c2
              have HMI := Lib.hid (hmin.trans hbk)
              clear hmin hbl hbk
              by_cases hbad : (k' : Int) = badAt
              · have HBAD := Lib.hid hbad
                have hbb : ((k' : Int) == badAt) = true := by simpa using hbad
                clear hbad
                go_wp2_with fail
                all_goals
                  refine (H9.out HBAD.out _ (Or.inl rfl)).mono ?_
                  rintro e w5 ⟨v5, ts5, rfl, h5⟩
                  have H5 := Lib.hid h5
                  clear h5
                  go_wp2_with fail
                  go_roundw
                  case rel => exact ⟨k' + 1, ts5, hlt', by go_num, H5.out⟩
                  case measure => simp [intOf]; omega
              · have HBAD := Lib.hid hbad
                have hbb : ((k' : Int) == badAt) = false := by simpa using hbad
                clear hbad
                go_wp2_with fail
                all_goals
                  refine (H11.out HBAD.out HMI.out).mono ?_
                  rintro e w5 ⟨v5, ts5, rfl, h5⟩
                  have H5 := Lib.hid h5
                  clear h5
                  go_wp2_with fail
                  go_roundw
                  case rel => exact ⟨k' + 1, ts5, hlt', by go_num, H5.out⟩
                  case measure => simp [intOf]; omega
          · have hmin : minusB negn negB k' = false := by simp [minusB]; intro h1 h2; exact absurd ⟨h1, h2⟩ hm
            have HMI := Lib.hid hmin
            clear hmin
            have hge : k' = 0 ∨ negn ≤ k' := by omega
            clear hm
            rcases hge with hge | hge
            · have hge0 : ¬ 0 < k' := by omega
              clear hge
              by_cases hbad : (k' : Int) = badAt
              · have HBAD := Lib.hid hbad
                have hbb : ((k' : Int) == badAt) = true := by simpa using hbad
                clear hbad
                go_wp2_with fail
                all_goals
                  refine (H9.out HBAD.out _ (Or.inl rfl)).mono ?_
                  rintro e w5 ⟨v5, ts5, rfl, h5⟩
                  have H5 := Lib.hid h5
                  clear h5
                  go_wp2_with fail
                  go_roundw
                  case rel => exact ⟨k' + 1, ts5, hlt', by go_num, H5.out⟩
                  case measure => simp [intOf]; omega
              · have HBAD := Lib.hid hbad
                have hbb : ((k' : Int) == badAt) = false := by simpa using hbad
                clear hbad
                go_wp2_with fail
                all_goals
                  refine (H11.out HBAD.out HMI.out).mono ?_
                  rintro e w5 ⟨v5, ts5, rfl, h5⟩
                  have H5 := Lib.hid h5
                  clear h5
                  go_wp2_with fail
                  go_roundw
                  case rel => exact ⟨k' + 1, ts5, hlt', by go_num, H5.out⟩
                  case measure => simp [intOf]; omega
            ·
              by_cases hbad : (k' : Int) = badAt
              · have HBAD := Lib.hid hbad
                have hbb : ((k' : Int) == badAt) = true := by simpa using hbad
                clear hbad
                go_wp2_with fail
                all_goals
                  refine (H9.out HBAD.out _ (Or.inl rfl)).mono ?_
                  rintro e w5 ⟨v5, ts5, rfl, h5⟩
                  have H5 := Lib.hid h5
                  clear h5
                  go_wp2_with fail
                  go_roundw
                  case rel => exact ⟨k' + 1, ts5, hlt', by go_num, H5.out⟩
                  case measure => simp [intOf]; omega
              · have HBAD := Lib.hid hbad
                have hbb : ((k' : Int) == badAt) = false := by simpa using hbad
                clear hbad
                go_wp2_with fail
                all_goals
                  refine (H11.out HBAD.out HMI.out).mono ?_
                  rintro e w5 ⟨v5, ts5, rfl, h5⟩
                  have H5 := Lib.hid h5
                  clear h5
                  go_wp2_with fail
                  go_roundw
                  case rel => exact ⟨k' + 1, ts5, hlt', by go_num, H5.out⟩
                  case measure => simp [intOf]; omega
        · have hkn : k' = namesn := by omega
          subst hkn
          obtain ⟨ta, tc, rfl, htc, htc2⟩ := owns_slice hM.own
          have HM := Lib.hid hM
          clear hM
          go_wp2_with fail
          refine (sum_any ta k' tc l ws wr HM.out.len (by omega) htc (by omega) htc2 (terms_of HM.out) HM.out.first).mono ?_
          rintro e w5 h5
          by_cases hbad : 0 ≤ badAt ∧ badAt < k'
          · have hno : SumNo wr e w5 := by
              rcases h5 with ⟨_, h⟩ | ⟨h, _⟩
              · obtain ⟨t, ht, h1⟩ := HM.out.bad hbad
                have := h t ht
                omega
              · exact h
            clear h5
            obtain ⟨rfl, hb5⟩ := hno
            have HB5 := Lib.hid hb5
            clear hb5
            obtain ⟨hbad1, hbad2⟩ := hbad
            go_wp2_with fail
            go_ret
            have b2 := HBW.out.trans (HM.out.bel.mono HBW.out.size)
            exact ⟨rfl, (b2.trans (HB5.out.mono b2.size)).alloc (by have := b2.size; have := HB5.out.size; omega) _⟩
          · have hyes : SumOk l wr e w5 := by
              rcases h5 with ⟨h, _⟩ | ⟨_, t, ht, h1⟩
              · exact h
              · have := HM.out.good hbad t ht
                omega
            clear h5
            obtain ⟨g, g2, mm, c', rfl, hm, hg, hrow, l1, l2, hb5⟩ := hyes
            have HRW := Lib.hid hrow
            have HB5 := Lib.hid hb5
            have hgl := block_lt_of_cell hg
            rw [HM.out.len] at hm
            subst hm
            clear hrow hb5
            have hbad' : badAt < 0 ∨ (k' : Int) ≤ badAt := by omega
            clear hbad
            obtain ⟨W3, rfl⟩ : ∃ W3 : World, W3 = wr := ⟨_, rfl⟩
            have b3 := HBW.out.trans (HM.out.bel.mono HBW.out.size)
            have b5 := b3.trans (HB5.out.mono b3.size)
            have h5s : w.heap.size ≤ w5.heap.size := b5.size
            have H5 := Lib.hid b5
            clear b5 b3
            rcases hbad' with hbad | hbad
            all_goals
              go_wp2_with fail
              go_loopw [21] (fun i wr => ∃ j : Nat, j ≤ k' ∧ i = .int .i64 j ∧ Below w5.heap.size w5 wr) (fun i _ => k' - (intOf i).toNat)
              case atStart => exact ⟨0, Nat.zero_le _, rfl, (Below.refl _ _).alloc (Nat.le_refl _) _⟩
              case round =>
                obtain ⟨j, hj, rfl, hB⟩ := hrel
                by_cases hlt : j < k'
                · have hlj : j < l.length := by rw [HM.out.len]; exact hlt
                  have hd := HM.out.desc j l[j] (List.getElem?_eq_getElem hlj)
                  have hg1 := HM.out.good (by omega) l[j] (List.getElem_mem hlj)
                  have hlen := toksOf_length l (by omega)
                  rw [HM.out.len] at hlen
                  have hv := toksOf_val l j l[j] (List.getElem?_eq_getElem hlj)
                  rw [hd.2 hg1, Nat.mul_comm j 2] at hv
                  have hcell := fun r (hr : r < 7) => tok_cell HRW.out hB hlen hv hr
                  have a0 := hcell 0 (by decide)
                  have a1 := hcell 1 (by decide)
                  have a2 := hcell 2 (by decide)
                  have a3 := hcell 3 (by decide)
                  have a4 := hcell 4 (by decide)
                  have a5 := hcell 5 (by decide)
                  have a6 := hcell 6 (by decide)
                  simp only [Tok.cells, List.getD_cons_zero, List.getD_cons_succ, Nat.add_zero] at a0 a1 a2 a3 a4 a5 a6
                  clear hcell
                  have hNB := (HM.out.bel.trans (HB5.out.mono HM.out.le)).trans (hB.mono (Nat.le_trans HM.out.le HB5.out.size))
                  obtain ⟨nb, no, hna, hnl, h2⟩ := (hN.out.below hNB).blk (by omega)
                  have c1 := h2 j hlt
                  simp only [strAt] at c1
                  have hnb : nb < wr.heap.size := block_lt_of_cell c1
                  have hg2 : g2 < wr.heap.size := block_lt_of_cell a0
                  clear h2 hnl
                  subst hna
                  generalize namesS j = sj at *

                  have HD := Lib.hid hd
                  have HLE := Lib.hid hlen
                  have HBB := Lib.hid hB
                  have HNB := Lib.hid hNB
                  have i0 : (0 : Int) ≤ (j : Int) := by omega
                  have i1 : (j : Int) < (k' : Int) := by omega
                  have hnot : ¬ (j : Int) = badAt := by omega
                  have HNOT := Lib.hid hnot
                  clear hd hlen hv hB hNB hnot
                  by_cases hj0 : 0 < j
                  · have hop := toksOf_op l (j - 1) l[j] (by rw [show j - 1 + 1 = j by omega]; exact List.getElem?_eq_getElem hlj)
                    rw [show (j - 1) * 2 + 1 = 2 * j - 1 by omega] at hop
                    have hkk : (l[j].kd == 1) = minusB negn negB j := by
                      rw [HD.out.1]
                      simp only [kindOf, if_neg HNOT.out]
                      cases minusB negn negB j <;> rfl
                    rw [hkk] at hop
                    have hcell := fun r (hr : r < 7) => tok_cell HRW.out HBB.out HLE.out hop hr
                    have o0 := hcell 0 (by decide)
                    have o1 := hcell 1 (by decide)
                    have o2 := hcell 2 (by decide)
                    have o3 := hcell 3 (by decide)
                    have o4 := hcell 4 (by decide)
                    have o5 := hcell 5 (by decide)
                    have o6 := hcell 6 (by decide)
                    simp only [Tok.cells, List.getD_cons_zero, List.getD_cons_succ, Nat.add_zero] at o0 o1 o2 o3 o4 o5 o6
                    clear hcell hop hkk
                    by_cases hjn : j < negn
                    · obtain ⟨bb, bo, hba, hbl, h2⟩ := (hB.out.below HNB.out).blk (by omega)
                      have c2 := h2 j hjn
                      simp only [boolAt] at c2
                      clear h2
                      subst hba
                      have hbb0 : bb < wr.heap.size := block_lt_of_cell c2
                      have hmin : minusB negn negB j = negB j := by simp [minusB, hj0, hjn]
                      cases hbk : negB j with
                      | true =>
                        rw [hbk] at c2 hmin
                        clear hbk hbl
                        rw [hmin] at o1 o5
                        simp only [opK, opS, reduceIte] at o1 o5
                        clear hmin
                        go_wp2_with fail
                        go_quiet (fail)
                        go_wp2_with fail
                        go_roundw
                        case rel =>
                          have e1 := below_drewN (HBB.out.alloc HBB.out.size (.cells (tokR 29 sj (.pointer none) 0) 41)) nq
                          exact ⟨j + 1, hlt, by go_num, e1.alloc e1.size _⟩
                        case measure => simp [intOf]; omega
                      | false =>
                        rw [hbk] at c2 hmin
                        clear hbk hbl
                        rw [hmin] at o1 o5
                        simp only [opK, opS, reduceIte, Bool.false_eq_true] at o1 o5
                        clear hmin
                        go_wp2_with fail
                        go_quiet (fail)
                        go_wp2_with fail
                        go_roundw
                        case rel =>
                          have e1 := below_drewN (HBB.out.alloc HBB.out.size (.cells (tokR 29 sj (.pointer none) 0) 41)) nq
                          exact ⟨j + 1, hlt, by go_num, e1.alloc e1.size _⟩
                        case measure => simp [intOf]; omega
                    · have hmin : minusB negn negB j = false := by simp [minusB, hjn]
                      rw [hmin] at o1 o5
                      simp only [opK, opS, reduceIte, Bool.false_eq_true] at o1 o5
                      clear hmin
                      go_wp2_with fail
                      go_quiet (fail)
                      go_wp2_with fail
                      go_roundw
                      case rel =>
                        have e1 := below_drewN (HBB.out.alloc HBB.out.size (.cells (tokR 29 sj (.pointer none) 0) 41)) nq
                        exact ⟨j + 1, hlt, by go_num, e1.alloc e1.size _⟩
                      case measure => simp [intOf]; omega
                  · go_wp2_with fail
                    go_quiet (fail)
                    go_wp2_with fail
                    go_roundw
                    case rel => exact ⟨j + 1, hlt, by go_num, below_drewN (HBB.out.alloc HBB.out.size _) _⟩
                    case measure => simp [intOf]; omega
                · go_wp2_with fail
                  go_ret
                  exact ⟨rfl, H5.out.trans (hB.mono h5s)⟩
end Go.Proofs.YtlajoolgfhlmkaaGreatFmt
