/- FnLowerAlphaPercentageLeavesOthersAlone: the law's walk. -/
import Derived.Test.YtkajkfopnkgoaaaFmtC1
namespace Go.Proofs.YtkajkfopnkgoaaaFmt
open Go.RowKit
theorem h_begins2 (s : ByteArray) : ({ data := #[35] } ++ s ++ { data := #[37] } : ByteArray).size = s.size + 2 ∧ ∃ h : 0 < ({ data := #[35] } ++ s ++ { data := #[37] } : ByteArray).size, ({ data := #[35] } ++ s ++ { data := #[37] } : ByteArray)[0] = 35 := by
  have g1 : ({ data := #[35] } ++ s : ByteArray).size = s.size + 1 := by rw [ByteArray.size_append]; exact Nat.add_comm _ _
  have g2 : ({ data := #[35] } ++ s ++ { data := #[37] } : ByteArray).size = s.size + 2 := by rw [ByteArray.size_append, g1]; rfl
  refine ⟨g2, by omega, ?_⟩
  rw [ByteArray.getElem_append_left (by rw [g1]; omega), ByteArray.getElem_append_left (by exact Nat.zero_lt_one)]
  rfl
theorem zz6_other (s : ByteArray) (k : Int) (w : World) (hk : (k == 34) = false) (hv : SynVar w) : Calls Tryf.prog 6 #[tokV s k] w (Same s k w) := zz6_of s k w (fun w _ => low_other s k w hk) hv
theorem zz6_bad (s : ByteArray) (w : World) (hs : s.size ≤ 1048576) (hv : SynVar w) : Calls Tryf.prog 6 #[tokV ({ data := #[35] } ++ s ++ { data := #[37] }) 34] w (Same ({ data := #[35] } ++ s ++ { data := #[37] }) 34 w) := by
  obtain ⟨h1, h2, h3⟩ := h_begins2 s
  exact zz6_of _ 34 w (fun w hv => low_bad _ w (by omega) (by omega) 35 h3 (Or.inr rfl) hv) hv

set_option maxRecDepth 100000 in
set_option maxHeartbeats 2000000 in
theorem law4 (s : ByteArray) (k : Int) (w : World) (hs : s.size ≤ maxLen) (hv : SynVar w) : Calls Tryf.prog 4 #[.string s, .int .u8 k] w (LawOk w) := by
  have HS := Lib.hid hs
  have HV := Lib.hid hv
  clear hs hv
  by_cases hk : k = 34
  · have hk1 : (k == 34) = true := by simp [hk]
    subst hk
    clear hk1
    go_enter Tryf.func4, Tryf.ntmps4
    go_wp2_with fail
    refine (zz_FnLowerAlphaPercentageLeavesOthersAlone s 34 w HS.out).mono ?_
    rintro e w' ⟨b, rfl, hb, rfl⟩
    cases b with
    | false =>
      go_wp2
      go_ret
      exact ⟨rfl, Below.refl _ _⟩
    | true =>
      have hsz := hb rfl
      clear hb
      go_wp2_with fail
      refine (zz6_bad s w hsz HV.out).mono ?_
      rintro e w1 ⟨rfl, hb1⟩
      go_wp2
      go_ret
      exact ⟨rfl, hb1.alloc hb1.size _⟩
  · have hk1 : (k == 34) = false := by simp [hk]
    go_enter Tryf.func4, Tryf.ntmps4
    go_wp2_with fail
    refine (zz_FnLowerAlphaPercentageLeavesOthersAlone s k w HS.out).mono ?_
    rintro e w' ⟨b, rfl, hb, rfl⟩
    cases b with
    | false =>
      go_wp2
      go_ret
      exact ⟨rfl, Below.refl _ _⟩
    | true =>
      have hsz := hb rfl
      clear hb
      go_wp2_with fail
      refine (zz6_other s k w hk1 HV.out).mono ?_
      rintro e w1 ⟨rfl, hb1⟩
      go_wp2_with fail
      refine (zz6_bad s _ hsz (HV.out.below (hb1.alloc hb1.size _))).mono ?_
      rintro e w2 ⟨rfl, hb2⟩
      go_wp2
      go_ret
      have z1 := hb1.size
      have z2 := hb2.size
      simp at z2
      exact ⟨rfl, ((hb1.alloc z1 _).trans (hb2.mono (by simp; omega))).alloc (by omega) _⟩
end Go.Proofs.YtkajkfopnkgoaaaFmt
