/- FnDegreesForAngleIntegerUnitTable: the ways joined. -/
import Derived.Test.YtkajkfopnkgoaaaDoorD2
import Derived.DataShut
namespace Go.Proofs.YtkajkfopnkgoaaaDoor
open Go.RowKit

theorem parses_whole (n : Int) (h : n.natAbs < 4503599627370496) (t : ByteArray) (ht : IsInt n t) : Parses t (floatOfInt .f64 n) := fun wx hv => ParseFloat_whole t _ _ wx (ht.whole h) hv.flt
theorem parses_half (n : Int) (h : n.natAbs < 400000000000000) (h2 : n.natAbs < 2 ^ 40) (t : ByteArray) (ht : IsInt n t) : Parses (t ++ { data := #[46, 53] }) (Ieee.double.nearest (decide (n < 0)) (2 * n.natAbs + 1) (-1)) := fun wx hv => by
  have := ParseFloat_dec _ _ _ _ wx (ht.half (by omega) h) hv
  rw [fdec_half _ _ h2] at this
  exact this

/-- What is wanted of the word. -/
structure Fine (R : Nat) : Prop where
  self : (FloatKind.f64.format.order R R == some Ordering.eq) = true
  mul : ∀ c, c = 4606281698874543309 ∨ c = 4633260481411531256 ∨ c = 4645040803167600640 → ∃ q, floatBits .mul .f64 R c = some q ∧ (FloatKind.f64.format.order q q == some Ordering.eq) = true
theorem const_number (c : Nat) (h : c = 4606281698874543309 ∨ c = 4633260481411531256 ∨ c = 4645040803167600640) : ∃ n j, Ieee.double.read c = .number false n j := by
  rcases h with rfl | rfl | rfl
  · exact ⟨_, _, (by decide +kernel : Ieee.double.read 4606281698874543309 = .number false 8106479329266893 (-53))⟩
  · exact ⟨_, _, (by decide +kernel : Ieee.double.read 4633260481411531256 = .number false 8063664102031864 (-47))⟩
  · exact ⟨_, _, (by decide +kernel : Ieee.double.read 4645040803167600640 = .number false 6333186975989760 (-44))⟩
theorem fine_of (neg : Bool) (m : Nat) (p : Int) (h : ∃ S e, Ieee.double.read (Ieee.double.nearest neg m p) = .number neg S e) : Fine (Ieee.double.nearest neg m p) := by
  refine ⟨floatEq_nearest neg m p, fun c hc => ?_⟩
  obtain ⟨S, e, h⟩ := h
  obtain ⟨n, j, hn⟩ := const_number c hc
  exact ⟨_, mul_number neg m c p h hn, floatEq_nearest _ _ _⟩
theorem fine_whole (n : Int) (h : n.natAbs < 2 ^ 53) : Fine (floatOfInt .f64 n) := by
  refine fine_of (decide (n < 0)) n.natAbs 0 ?_
  rcases Nat.eq_zero_or_pos n.natAbs with h0 | h0
  · rw [h0, Fl.read_zero]; exact ⟨_, _, rfl⟩
  · rw [Fl.read_int _ _ h0 h]; exact ⟨_, _, rfl⟩
theorem fine_half (neg : Bool) (a : Nat) (h : a < 2 ^ 40) : Fine (Ieee.double.nearest neg (2 * a + 1) (-1)) := fine_of _ _ _ (read_half neg _ (by omega) (by omega))

theorem way_any (n s : Int) (b : Bool) (w : World) (h1 : -2147483648 ≤ n) (h2 : n ≤ 2147483647) (hs0 : 0 ≤ s) (hv : PowVars w) : Calls Tryd.prog 4 #[.int .i32 n, .bool b, .int .u8 s] w (LawOk w) := by
  have c1 : (4606281698874543309 : Nat) = 4606281698874543309 ∨ (4606281698874543309 : Nat) = 4633260481411531256 ∨ (4606281698874543309 : Nat) = 4645040803167600640 := Or.inl rfl
  have c2 : (4633260481411531256 : Nat) = 4606281698874543309 ∨ (4633260481411531256 : Nat) = 4633260481411531256 ∨ (4633260481411531256 : Nat) = 4645040803167600640 := Or.inr (Or.inl rfl)
  have c3 : (4645040803167600640 : Nat) = 4606281698874543309 ∨ (4645040803167600640 : Nat) = 4633260481411531256 ∨ (4645040803167600640 : Nat) = 4645040803167600640 := Or.inr (Or.inr rfl)
  have hs : s % 7 = 0 ∨ s % 7 = 1 ∨ s % 7 = 2 ∨ s % 7 = 3 ∨ s % 7 = 4 ∨ s % 7 = 5 ∨ s % 7 = 6 := by omega
  have ha : n.natAbs < 2 ^ 40 := by omega
  cases b
  · have F := fine_whole n (by omega)
    have P := parses_whole n (by omega)
    obtain ⟨q1, m1, e1⟩ := F.mul _ c1
    obtain ⟨q2, m2, e2⟩ := F.mul _ c2
    obtain ⟨q3, m3, e3⟩ := F.mul _ c3
    rcases hs with hs | hs | hs | hs | hs | hs | hs
    · exact way_whole_0 n s _ w h1 h2 hs hs0 P hv rfl F.self
    · exact way_whole_1 n s _ w h1 h2 hs hs0 P hv rfl F.self
    · exact way_whole_2 n s _ w h1 h2 hs hs0 P hv rfl q1 m1 e1
    · exact way_whole_3 n s _ w h1 h2 hs hs0 P hv rfl q2 m2 e2
    · exact way_whole_4 n s _ w h1 h2 hs hs0 P hv rfl q3 m3 e3
    · exact way_whole_5 n s _ w h1 h2 hs hs0 P hv rfl
    · exact way_whole_6 n s _ w h1 h2 hs hs0 P hv rfl
  · have P := parses_half n (by omega) ha
    by_cases hn : n < 0
    · have F := fine_half true n.natAbs ha
      have e : decide (n < 0) = true := by simpa using hn
      have hv2 := sub_half n.natAbs ha (by omega)
      rw [e] at P
      have e0 : floatOfInt .f64 n = fint true n.natAbs := by rw [← e]; rfl
      rw [← e0] at hv2
      obtain ⟨q1, m1, e1⟩ := F.mul _ c1
      obtain ⟨q2, m2, e2⟩ := F.mul _ c2
      obtain ⟨q3, m3, e3⟩ := F.mul _ c3
      rcases hs with hs | hs | hs | hs | hs | hs | hs
      · exact way_neg_0 n s _ w h1 h2 hs hs0 P hv hn hv2 F.self
      · exact way_neg_1 n s _ w h1 h2 hs hs0 P hv hn hv2 F.self
      · exact way_neg_2 n s _ w h1 h2 hs hs0 P hv hn hv2 q1 m1 e1
      · exact way_neg_3 n s _ w h1 h2 hs hs0 P hv hn hv2 q2 m2 e2
      · exact way_neg_4 n s _ w h1 h2 hs hs0 P hv hn hv2 q3 m3 e3
      · exact way_neg_5 n s _ w h1 h2 hs hs0 P hv hn hv2
      · exact way_neg_6 n s _ w h1 h2 hs hs0 P hv hn hv2
    · have F := fine_half false n.natAbs ha
      have e : decide (n < 0) = false := by simpa using hn
      have hv2 := add_half n.natAbs ha
      rw [e] at P
      have e0 : floatOfInt .f64 n = fint false n.natAbs := by rw [← e]; rfl
      rw [← e0] at hv2
      obtain ⟨q1, m1, e1⟩ := F.mul _ c1
      obtain ⟨q2, m2, e2⟩ := F.mul _ c2
      obtain ⟨q3, m3, e3⟩ := F.mul _ c3
      rcases hs with hs | hs | hs | hs | hs | hs | hs
      · exact way_pos_0 n s _ w h1 h2 hs hs0 P hv hn hv2 F.self
      · exact way_pos_1 n s _ w h1 h2 hs hs0 P hv hn hv2 F.self
      · exact way_pos_2 n s _ w h1 h2 hs hs0 P hv hn hv2 q1 m1 e1
      · exact way_pos_3 n s _ w h1 h2 hs hs0 P hv hn hv2 q2 m2 e2
      · exact way_pos_4 n s _ w h1 h2 hs hs0 P hv hn hv2 q3 m3 e3
      · exact way_pos_5 n s _ w h1 h2 hs hs0 P hv hn hv2
      · exact way_pos_6 n s _ w h1 h2 hs hs0 P hv hn hv2

theorem law47_wf (n : Int) (b : Bool) (s : Int) (W : World) (hn : (Lit.int .i32 n).wf = true) (hs : (Lit.int .u8 s).wf = true) (hv : PowVars W) : Calls Tryd.prog 4 #[.int .i32 n, .bool b, .int .u8 s] W (LawOk W) := by
  have a := (Lit.wf_int_iff .i32 n).1 hn
  have c := (Lit.wf_int_iff .u8 s).1 hs
  have e1 : IntKind.i32.min = -2147483648 := by decide
  have e2 : IntKind.i32.max = 2147483647 := by decide
  have e3 : IntKind.u8.min = 0 := by decide
  rw [e1, e2] at a
  rw [e3] at c
  exact way_any n s b W a.1 a.2 c.1 hv
end Go.Proofs.YtkajkfopnkgoaaaDoor
