/- Equal rows of bytes; the size of the pieces; the premise. -/
import Derived.Test.YtdoakedpkjlipaaFmtK2
namespace Go.Proofs.YtdoakedpkjlipaaFmt
open Go.RowKit
set_option linter.unusedVariables false
set_option maxRecDepth 100000 in
set_option maxHeartbeats 400000 in
theorem size_any (pub : ByteArray) (rela : Option Addr) (reln relc : Nat) (relS : Nat → ByteArray) (data : Option Addr) (datn datc : Nat) (datA : Nat → Option Addr) (datN datC : Nat → Nat) (ia : Option Addr) (im ic : Nat) (ka : Option Addr) (km kc : Nat) (dir : ByteArray) (w : World)
    (hrel : reln ≤ 4096) (hdat : datn ≤ 4096) (hr : RowAt w rela reln (strAt relS)) (hd : RowAt w data datn (slcAt datA datN datC)) :
    Calls Tryf.prog 5 #[.string pub, .slice rela reln relc, .slice data datn datc, .slice ia im ic, .slice ka km kc, .string dir] w (fun e w' => ∃ m : Int, e = .returned (.int .i64 m) ∧ w' = w) := by
  have HR := Lib.hid (And.intro hr hd)
  clear hr hd
  go_enter Tryf.func5, Tryf.ntmps5
  go_wp2
  generalize wrap64 (wrap64 (wrap64 (↑pub.size + ↑dir.size) + wrap64 (4 * ↑im)) + ↑km) = z0
  go_loop [13, 14] (fun z i => ∃ (k : Nat) (m : Int), k ≤ reln ∧ i = .int .i64 k ∧ z = .int .i64 m) (fun _ i => reln - (intOf i).toNat)
  case atStart => exact ⟨0, _, Nat.zero_le _, rfl, rfl⟩
  case round =>
    obtain ⟨k, m, hk, rfl, rfl⟩ := hrel
    by_cases hlt : k < reln
    · obtain ⟨b1, o1, rfl, _, h1⟩ := HR.out.1.blk (by omega)
      have c1 := h1 k hlt
      clear h1
      simp only [strAt] at c1
      generalize relS k = v at c1
      go_wp2_with fail
      exact ⟨⟨k + 1, _, by omega, by go_num, rfl⟩, by simp [intOf]; omega⟩
    · obtain rfl : k = reln := by omega
      go_wp2_with fail
      go_loop [13, 15] (fun z i => ∃ (k : Nat) (m : Int), k ≤ datn ∧ i = .int .i64 k ∧ z = .int .i64 m) (fun _ i => datn - (intOf i).toNat)
      case atStart => exact ⟨0, _, Nat.zero_le _, rfl, rfl⟩
      case round =>
        obtain ⟨k, m, hk, rfl, rfl⟩ := hrel
        by_cases hlt : k < datn
        · obtain ⟨b1, o1, rfl, _, h1⟩ := HR.out.2.blk (by omega)
          have c1 := h1 k hlt
          clear h1
          simp only [slcAt] at c1
          generalize datA k = va at c1
          generalize datN k = vn at c1
          generalize datC k = vc at c1
          go_wp2_with fail
          exact ⟨⟨k + 1, _, by omega, by go_num, rfl⟩, by simp [intOf]; omega⟩
        · obtain rfl : k = datn := by omega
          go_wp2_with fail
          go_ret
          exact ⟨⟨_, rfl⟩, rfl⟩
/-- The bytes that the pieces come to at most. -/
def unf (P : Nat) (relS : Nat → ByteArray) (N : Nat → Nat) (idxZ kdsZ : Nat → Int) : Nat → Nat
  | 0 => 0
  | k + 1 => unf P relS N idxZ kdsZ k + N k + if kdsZ k = 2 then P + 1 + (relS (idxZ k).toNat).size else 0
theorem unf_le {P : Nat} {relS : Nat → ByteArray} {N : Nat → Nat} {idxZ kdsZ : Nat → Int} {n m : Nat} (hP : P ≤ 1048576) (hN : ∀ i, i < n → N i ≤ 1048576) (hR : ∀ j, j < m → (relS j).size ≤ 1048576) (hi : ∀ i, i < n → kdsZ i = 2 → (idxZ i).toNat < m) : ∀ k, k ≤ n → unf P relS N idxZ kdsZ k ≤ k * 4194304
  | 0, _ => Nat.le_refl _
  | k + 1, hk => by
    have ih := unf_le hP hN hR hi k (by omega)
    have h1 := hN k (by omega)
    unfold unf
    split
    · have := hR _ (hi k (by omega) (by assumption))
      omega
    · omega
structure Prem (pub : ByteArray) (reln : Nat) (relS : Nat → ByteArray) (datn : Nat) (datN : Nat → Nat) (im : Nat) (idxZ : Nat → Int) (km : Nat) (kdsZ : Nat → Int) : Prop where
  pub0 : pub.toList.isEmpty = false
  im : im = datn
  km : km = datn
  ok : ∀ i, i < datn → kdsZ i ≠ 1 ∧ (kdsZ i = 2 → idxZ i < reln)
  le : unf pub.size relS datN idxZ kdsZ datn ≤ 1048576
set_option maxRecDepth 100000 in
set_option maxHeartbeats 400000 in
theorem premise_any (pub : ByteArray) (rela : Option Addr) (reln relc : Nat) (relS : Nat → ByteArray) (data : Option Addr) (datn datc : Nat) (datA : Nat → Option Addr) (datN datC : Nat → Nat) (ia : Option Addr) (im ic : Nat) (idxZ : Nat → Int) (ka : Option Addr) (km kc : Nat) (kdsZ : Nat → Int) (w : World)
    (hpub : pub.size ≤ 1048576) (hrel : reln ≤ 4096) (hdat : datn ≤ 4096) (hr : RowAt w rela reln (strAt relS)) (hd : RowAt w data datn (slcAt datA datN datC)) (hi : RowAt w ia im (intAt .u32 idxZ)) (hk : RowAt w ka km (intAt .u8 kdsZ))
    (hR : ∀ j, j < reln → (relS j).size ≤ 1048576) (hN : ∀ i, i < datn → datN i ≤ 1048576) (hib : ∀ i, i < im → 0 ≤ idxZ i ∧ idxZ i < 4294967296) (hkb : ∀ i, i < km → 0 ≤ kdsZ i ∧ kdsZ i < 256) :
    Calls Tryf.prog 6 #[.string pub, .slice rela reln relc, .slice data datn datc, .slice ia im ic, .slice ka km kc] w (fun e w' => ∃ b, e = .returned (.bool b) ∧ (b = true → Prem pub reln relS datn datN im idxZ km kdsZ) ∧ Below w.heap.size w w') := by
  have HR := Lib.hid (And.intro hr (And.intro hd (And.intro hi hk)))
  have HRS := Lib.hid hR
  have HNS := Lib.hid hN
  have HIB := Lib.hid (And.intro hib hkb)
  clear hr hd hi hk hR hN hib hkb
  go_enter Tryf.func6, Tryf.ntmps6
  go_wp2
  · go_ret
    exact ⟨false, rfl, fun h => Bool.noConfusion h, Below.refl _ _⟩
  · go_ret
    exact ⟨false, rfl, fun h => Bool.noConfusion h, Below.refl _ _⟩
  · have hp0 : pub.toList.isEmpty = false := (‹pub.toList.isEmpty = false ∧ _›).1
    have him : im = datn := by have : (im : Int) = datn := by assumption
                               omega
    have hkm : km = datn := by have h := (‹pub.toList.isEmpty = false ∧ _›).2
                               have h2 : (km : Int) = datn := by simpa using h
                               omega
    have HP0 := Lib.hid (And.intro hp0 (And.intro him hkm))
    clear hp0
    go_loopw [11, 12] (fun z i wr => ∃ k : Nat, k ≤ datn ∧ i = .int .i64 k ∧ z = .int .i64 (unf pub.size relS datN idxZ kdsZ k) ∧ (∀ j, j < k → kdsZ j ≠ 1 ∧ (kdsZ j = 2 → idxZ j < reln)) ∧ Below w.heap.size w wr) (fun _ i _ => datn - (intOf i).toNat)
    case atStart => exact ⟨0, Nat.zero_le _, rfl, rfl, fun j hj => by omega, Below.refl _ _⟩
    case round =>
      obtain ⟨k, hkn, rfl, rfl, hok, hb⟩ := hrel
      by_cases hlt : k < datn
      · obtain ⟨b1, o1, rfl, l1, h1⟩ := HR.out.2.1.blk (by omega)
        obtain ⟨b2, o2, rfl, l2, h2⟩ := HR.out.2.2.1.blk (by omega)
        obtain ⟨b3, o3, rfl, l3, h3⟩ := HR.out.2.2.2.blk (by omega)
        have c1 := (hb.cell (p := ⟨b1, o1 + k, none⟩) l1).trans (h1 k hlt)
        have c2 := (hb.cell (p := ⟨b2, o2 + k, none⟩) l2).trans (h2 k (by omega))
        have c3 := (hb.cell (p := ⟨b3, o3 + k, none⟩) l3).trans (h3 k (by omega))
        clear h1 h2 h3
        simp only [slcAt, intAt] at c1 c2 c3
        have hi := HIB.out.1 k (by omega)
        have hk := HIB.out.2 k (by omega)
        have HOK := Lib.hid hok
        have HBW := Lib.hid hb
        have hnk := HNS.out k hlt
        have hub : Hid (∀ (h : ∀ j, j < k → kdsZ j = 2 → idxZ j < reln), unf pub.size relS datN idxZ kdsZ k ≤ k * 4194304) := fun h => unf_le (n := k) (m := reln) hpub (fun i hi => HNS.out i (by omega)) HRS.out (fun i hi h2 => by have := h i hi h2; have := (HIB.out.1 i (by omega)).1; omega) k (Nat.le_refl _)
        have hu := hub.out (fun j hj h2 => (hok j hj).2 h2)
        have HU1 := Lib.hid (show unf pub.size relS datN idxZ kdsZ (k + 1) = unf pub.size relS datN idxZ kdsZ k + datN k + (if kdsZ k = 2 then pub.size + 1 + (relS (idxZ k).toNat).size else 0) from rfl)
        clear hok hb hub
        generalize hU : unf pub.size relS datN idxZ kdsZ k = u at *
        generalize hN : datN k = nk at *
        generalize datA k = ak at *
        generalize datC k = ck at *
        have HX := Lib.hid (And.intro hU hN)
        clear hU hN
        have hii := HIB.out.1 k (by omega)
        by_cases hk1 : kdsZ k = 1
        · rw [hk1] at c3
          go_wp2_with fail
          go_ret
          exact ⟨false, rfl, fun h => Bool.noConfusion h, HBW.out⟩
        by_cases hk2 : kdsZ k = 2
        · rw [hk2] at c3
          obtain ⟨q, hq⟩ : ∃ q : Nat, idxZ k = q := ⟨(idxZ k).toNat, by omega⟩
          rw [hq] at c2
          by_cases hlt2 : q < reln
          · obtain ⟨b4, o4, rfl, l4, h4⟩ := HR.out.1.blk (by omega)
            have c4 := (HBW.out.cell (p := ⟨b4, o4 + q, none⟩) l4).trans (h4 q hlt2)
            clear h4
            have hrs := HRS.out q hlt2
            have hu1 := HU1.out
            rw [if_pos hk2, hq, Int.toNat_natCast] at hu1
            simp only [strAt] at c4
            generalize relS q = rs at *
            have HU2 := Lib.hid hu1
            have HQ := Lib.hid (And.intro hk1 (And.intro hq hlt2))
            clear hu1 hk1 hk2 hq HU1 hii hi hk
            go_wp2_with fail
            refine ⟨⟨k + 1, by omega, by go_num, ?_, ?_, HBW.out⟩, by simp [intOf]; omega⟩
            · rw [HU2.out]
              go_num
            · intro j hj
              rcases Nat.lt_or_eq_of_le (Nat.lt_succ_iff.1 hj) with h | rfl
              · exact HOK.out j h
              · exact ⟨HQ.out.1, fun _ => by rw [HQ.out.2.1]; exact_mod_cast HQ.out.2.2⟩
          · have hge : (reln : Int) ≤ (q : Int) := by omega
            rw [hq] at hii
            clear HU1 hq
            go_wp2_with fail
            go_ret
            exact ⟨false, rfl, fun h => Bool.noConfusion h, HBW.out⟩
        · have e1 : (kdsZ k == 1) = false := by simp [hk1]
          have e2 : (kdsZ k == 2) = false := by simp [hk2]
          have hu1 := HU1.out
          rw [if_neg hk2] at hu1
          have HU2 := Lib.hid hu1
          have HQ := Lib.hid (And.intro hk1 hk2)
          clear hu1 HU1
          go_wp2_with fail
          refine ⟨⟨k + 1, by omega, by go_num, ?_, ?_, HBW.out⟩, by simp [intOf]; omega⟩
          · rw [HU2.out]
            go_num
          · intro j hj
            rcases Nat.lt_or_eq_of_le (Nat.lt_succ_iff.1 hj) with h | rfl
            · exact HOK.out j h
            · exact ⟨HQ.out.1, fun h => absurd h HQ.out.2⟩
      · obtain rfl : k = datn := by omega
        have HOK := Lib.hid hok
        have HBW := Lib.hid hb
        clear hok hb
        generalize hU : unf pub.size relS datN idxZ kdsZ k = u at *
        have HX := Lib.hid hU
        clear hU
        go_wp2_with fail
        go_ret
        refine ⟨decide ((u : Int) ≤ 1048576), rfl, fun h => ⟨HP0.out.1, HP0.out.2.1, HP0.out.2.2, HOK.out, ?_⟩, HBW.out⟩
        rw [HX.out]
        have := of_decide_eq_true h
        omega
  · go_ret
    exact ⟨false, rfl, fun h => Bool.noConfusion h, Below.refl _ _⟩
end Go.Proofs.YtdoakedpkjlipaaFmt
