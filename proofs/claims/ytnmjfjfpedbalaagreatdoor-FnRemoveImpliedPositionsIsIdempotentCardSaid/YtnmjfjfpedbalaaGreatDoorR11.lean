/- removeImpliedPositions at no stops; its wrapper. -/
import Derived.Test.YtnmjfjfpedbalaaGreatDoorR10
import Derived.Test.YtnmjfjfpedbalaaGreatDoorR9
namespace Go.Proofs.YtnmjfjfpedbalaaGreatDoor
open Go.RowKit
set_option linter.unusedVariables false
set_option maxRecDepth 100000 in
set_option maxHeartbeats 1000000 in
theorem rip_none (kind : Int) (B c : Nat) (w : World) :
    Calls Tryz.prog 13 #[.int .u8 kind, .slice (some ⟨B, 0, none⟩) 0 c] w (fun e w' => e = .returned (.slice (some ⟨B, 0, none⟩) 0 c) ∧ w' = w) := by
  go_enter Tryz.func13, Tryz.ntmps13
  go_wp2_with fail
  go_ret
  exact ⟨rfl, rfl⟩
theorem pass_none (kind : Int) (C : Nat → Bool) (h : ∀ i, C i = false) : Pass kind [] C := by
  refine ⟨fun s h => absurd h (Nat.not_lt_zero s), fun i hi => ?_, fun h => ?_, fun h => ?_⟩
  · rw [h i] at hi; cases hi
  · exact Bool.noConfusion (show false = true from h)
  · exact Bool.noConfusion (show false = true from h)
theorem rip_all (kind : Int) (base B n c : Nat) (ss : List SD) (w : World) (h : Stops kind base B n c ss w) (hn : n ≤ 256) (hpv : PowVars w) :
    Calls Tryz.prog 13 #[.int .u8 kind, .slice (some ⟨B, 0, none⟩) n c] w (fun e w' => ∃ C, e = .returned (.slice (some ⟨B, 0, none⟩) n c) ∧ Pass kind ss C ∧ w'.ownsRow base 39 15 (.slice (some ⟨B, 0, none⟩) n c) n (stCells (clr C ss)) ∧ w.grownBy w' (some B)) := by
  rcases Nat.eq_zero_or_pos n with rfl | h0
  · refine (rip_none kind B c w).mono ?_
    rintro e w' ⟨rfl, rfl⟩
    obtain rfl : ss = [] := List.eq_nil_of_length_eq_zero h.len
    exact ⟨fun _ => false, rfl, pass_none _ _ (fun _ => rfl), by rw [clr_none]; exact h.row, ⟨rfl, rfl, rfl, Nat.le_refl _, fun _ _ _ => rfl⟩⟩
  · exact rip_any kind base B n c ss w h h0 hn hpv
theorem zzrip_any (kind : Int) (base B n c : Nat) (ss : List SD) (w : World) (h : Stops kind base B n c ss w) (hn : n ≤ 256) (hpv : PowVars w) :
    Calls Tryz.prog 5 #[.int .u8 kind, .slice (some ⟨B, 0, none⟩) n c] w (fun e w' => ∃ C, e = .returned (.slice (some ⟨B, 0, none⟩) n c) ∧ Pass kind ss C ∧ w'.ownsRow base 39 15 (.slice (some ⟨B, 0, none⟩) n c) n (stCells (clr C ss)) ∧ w.grownBy w' (some B)) := by
  have HS := Lib.hid (And.intro h hpv)
  clear h hpv
  go_enter Tryz.func5, Tryz.ntmps5
  go_wp2_with fail
  refine (rip_all kind base B n c ss _ HS.out.1 hn HS.out.2).mono ?_
  rintro e w2 ⟨C, rfl, h1, h2, h3⟩
  have HR := Lib.hid (And.intro h1 (And.intro h2 h3))
  clear h1 h2 h3
  go_wp2_with fail
  go_ret
  exact ⟨C, rfl, HR.out.1, HR.out.2.1, HR.out.2.2⟩
theorem good_of_made {S V : Nat → Int} {m k B : Nat} {ss : List SD} {w : World} (kind : Int) (hS : ∀ i, i < k → 0 ≤ S i ∧ S i ≤ 255) (hV : ∀ i, i < m → -128 ≤ V i ∧ V i ≤ 127) (h : Made S V m k B ss w) : ∀ s ∈ ss, PosAt w s.v s.ts ∧ Good kind s ∧ ∀ b o l c, s.v = .slice (some ⟨b, o, none⟩) l c → b ≠ B := by
  intro s hs
  obtain ⟨j, hj, rfl⟩ := List.getElem_of_mem hs
  obtain ⟨h1, h2, h3, h4⟩ := h.2 j hj
  have hjk : j < k := by rw [← h.1]; exact hj
  have hn2 : (posOf S V m j).n ≤ 2 := by
    have := hS j hjk
    unfold posOf
    dsimp only
    omega
  have hv2 : -1000 ≤ (posOf S V m j).v ∧ (posOf S V m j).v ≤ 1000 := by
    unfold posOf
    dsimp only
    by_cases hkm : j < m
    · have := hV j hkm
      rw [if_pos hkm]
      omega
    · rw [if_neg hkm]
      omega
  refine ⟨h1, ⟨by omega, fun t ht => ?_⟩, h2⟩
  obtain ⟨i, hi, rfl⟩ := List.getElem_of_mem ht
  have hi2 : i < 2 := by omega
  have htok := h4 i hi
  obtain ⟨r, u, ok, h5, h6⟩ := isTok_ok kind _ i _ htok (by omega)
  refine ⟨⟨(r, u, ok), h5, h6⟩, ?_⟩
  generalize ss[j].ts[i] = t at *
  rcases htok with ⟨p, rfl⟩ | ⟨num, hnum, rfl | rfl⟩
  · exact ⟨fun h => absurd (show (27 : Nat) = 34 from h) (by decide), fun h => absurd (show (27 : Nat) = 26 from h) (by decide), by show 0 ≤ 65535; decide, by show 27 ≤ 255; decide, by show 4 ≤ 100; decide⟩
  · have hz := hnum.size
    have e : (num ++ { data := #[112, 120] } : ByteArray).size = num.size + 2 := by rw [ByteArray.size_append]; rfl
    exact ⟨fun h => absurd (show (26 : Nat) = 34 from h) (by decide), fun _ => by show num.size ≤ (num ++ _).size; rw [e]; omega, by show num.size ≤ 65535; omega, by show 26 ≤ 255; decide, by show (num ++ _).size ≤ 100; rw [e]; omega⟩
  · have hz := hnum.size
    have e : (num ++ { data := #[37] } : ByteArray).size = num.size + 1 := by rw [ByteArray.size_append]; rfl
    exact ⟨fun _ => by show 0 < (num ++ _).size; rw [e]; omega, fun h => absurd (show (34 : Nat) = 26 from h) (by decide), by show 0 ≤ 65535; decide, by show 34 ≤ 255; decide, by show (num ++ _).size ≤ 100; rw [e]; omega⟩
end Go.Proofs.YtnmjfjfpedbalaaGreatDoor
