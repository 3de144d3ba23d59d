/- FnParseColorByteRefusesNonNumericText: the law's walk. -/
import Derived.Test.YtgdkncphmbdpjaaDoorC1
namespace Go.Proofs.YtgdkncphmbdpjaaDoor
open Go.RowKit

set_option maxRecDepth 100000 in
set_option maxHeartbeats 2000000 in
theorem zz14 (s : ByteArray) (f : Nat) (w : World) : Calls Tryd.prog 14 #[.string s, .float .f64 f] w (Refused w) := by
  go_enter Tryd.func14, Tryd.ntmps14
  go_wp2_with (go_at_call 20; refine (pcb_ident s f _).mono ?_; rintro e w1 ⟨rfl, hb1⟩)
  go_ret2
  exact ⟨rfl, hb1⟩
set_option maxRecDepth 100000 in
set_option maxHeartbeats 2000000 in
theorem zz8 (s : ByteArray) (f : Nat) (w : World) (hs : s.size ≤ 281474976710656) (h0 : 0 < s.size) (b : UInt8) (hb : s[0] = b) (h1 : b = 122 ∨ b = 35) (hv : SynVar w) : Calls Tryd.prog 8 #[.string s, .float .f64 f] w (Refused w) := by
  have HB := Lib.hid hb
  clear hb
  go_enter Tryd.func8, Tryd.ntmps8
  go_wp2_with (go_at_call 20; refine (pcb_number_no s f _ hs h0 b HB.out h1 hv).mono ?_; rintro e w1 ⟨rfl, hb1⟩)
  go_ret2
  exact ⟨rfl, hb1⟩
set_option maxRecDepth 100000 in
set_option maxHeartbeats 2000000 in
theorem zz11 (s : ByteArray) (f : Nat) (w : World) (hs : s.size ≤ 281474976710656) (h0 : 2 ≤ s.size) (b : UInt8) (hb : s[0] = b) (h1 : b = 122 ∨ b = 35) (hv : SynVar w) : Calls Tryd.prog 11 #[.string s, .float .f64 f] w (Refused w) := by
  have HB := Lib.hid hb
  clear hb
  go_enter Tryd.func11, Tryd.ntmps11
  go_wp2_with (go_at_call 20; refine (pcb_perc_no s f _ hs h0 b HB.out h1 hv).mono ?_; rintro e w1 ⟨rfl, hb1⟩)
  go_ret2
  exact ⟨rfl, hb1⟩

theorem z_begins (s : ByteArray) : ({ data := #[122] } ++ s : ByteArray).size = s.size + 1 ∧ ∃ h : 0 < ({ data := #[122] } ++ s : ByteArray).size, ({ data := #[122] } ++ s : ByteArray)[0] = 122 := by
  have g1 : ({ data := #[122] } ++ s : ByteArray).size = s.size + 1 := by rw [ByteArray.size_append]; exact Nat.add_comm _ _
  refine ⟨g1, by omega, ?_⟩
  rw [ByteArray.getElem_append_left (by exact Nat.zero_lt_one)]
  rfl
theorem z_begins2 (s : ByteArray) : ({ data := #[122] } ++ s ++ { data := #[37] } : ByteArray).size = s.size + 2 ∧ ∃ h : 0 < ({ data := #[122] } ++ s ++ { data := #[37] } : ByteArray).size, ({ data := #[122] } ++ s ++ { data := #[37] } : ByteArray)[0] = 122 := by
  obtain ⟨g1, g3, g4⟩ := z_begins s
  have g2 : ({ data := #[122] } ++ s ++ { data := #[37] } : ByteArray).size = s.size + 2 := by rw [ByteArray.size_append, g1]; rfl
  refine ⟨g2, by omega, ?_⟩
  rw [ByteArray.getElem_append_left g3]
  exact g4

theorem zz8z (s : ByteArray) (f : Nat) (w : World) (hs : s.size ≤ 1048576) (hv : SynVar w) : Calls Tryd.prog 8 #[.string ({ data := #[122] } ++ s), .float .f64 f] w (Refused w) := by
  obtain ⟨h1, h2, h3⟩ := z_begins s
  exact zz8 _ f w (by omega) h2 122 h3 (Or.inl rfl) hv
theorem zz11z (s : ByteArray) (f : Nat) (w : World) (hs : s.size ≤ 1048576) (hv : SynVar w) : Calls Tryd.prog 11 #[.string ({ data := #[122] } ++ s ++ { data := #[37] }), .float .f64 f] w (Refused w) := by
  obtain ⟨h1, h2, h3⟩ := z_begins2 s
  exact zz11 _ f w (by omega) (by omega) 122 h3 (Or.inl rfl) hv

set_option maxRecDepth 100000 in
set_option maxHeartbeats 2000000 in
theorem law5 (s : ByteArray) (f : Nat) (w : World) (hs : s.size ≤ maxLen) (hv : SynVar w) : Calls Tryd.prog 5 #[.string s, .float .f64 f] w (LawOk w) := by
  have HS := Lib.hid hs
  have HV := Lib.hid hv
  clear hs hv
  go_enter Tryd.func5, Tryd.ntmps5
  go_wp2_with fail
  refine (zz_FnParseColorByteRefusesNonNumericText s f w HS.out).mono ?_
  rintro e w' ⟨b, rfl, hb, rfl⟩
  cases b with
  | false =>
    go_wp2
    go_ret
    exact ⟨rfl, Below.refl _ _⟩
  | true =>
    have hsz := hb rfl
    clear hb
    go_wp2_with fail
    refine (zz14 s f w).mono ?_
    rintro e w1 ⟨rfl, hb1⟩
    go_wp2_with fail
    refine (zz8z s f w1 hsz (HV.out.below hb1)).mono ?_
    rintro e w2 ⟨rfl, hb2⟩
    have hs1 := hb1.size
    have hs2 := hb2.size
    go_wp2_with fail
    refine (zz11z s f w2 hsz ((HV.out.below hb1).below hb2)).mono ?_
    rintro e w3 ⟨rfl, hb3⟩
    go_wp2
    go_ret
    exact ⟨rfl, (hb1.trans (hb2.mono hs1)).trans (hb3.mono (by omega))⟩
end Go.Proofs.YtgdkncphmbdpjaaDoor
