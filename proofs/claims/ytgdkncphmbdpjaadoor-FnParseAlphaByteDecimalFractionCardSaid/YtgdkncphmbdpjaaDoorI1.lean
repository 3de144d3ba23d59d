/- zzItoa_b2: the decimal text of a whole number. -/
import Derived.Test.YtgdkncphmbdpjaaDoorN1
import Derived.Laws.IdiomStrings
namespace Go.Proofs.YtgdkncphmbdpjaaDoor
open Go.RowKit

/-- The last n decimal digits of v. -/
def digs (v : Nat) : Nat → List UInt8
  | 0 => []
  | n + 1 => UInt8.ofNat (48 + v / 10 ^ n % 10) :: digs v n
theorem digs_length (v : Nat) : ∀ n, (digs v n).length = n
  | 0 => rfl
  | n + 1 => by rw [digs, List.length_cons, digs_length v n]

/-- The bytes l lie at the row's end, from place k on. -/
structure Buf (B : Nat) (l : List UInt8) (k : Nat) (w0 wr : World) : Prop where
  bel : Below w0.heap.size w0 wr
  siz : wr.heap.size = w0.heap.size + 1
  row : ∃ row : Array Value, wr.heap[B]? = some (.cells row 48 (0, 0)) ∧ row.size = 24 ∧ ∀ j (hj : j < l.length), row[k + j]? = some (.int .u8 (l[j].toNat : Int))

theorem Buf.cell {B k : Nat} {l : List UInt8} {w0 wr : World} (h : Buf B l k w0 wr) (j : Nat) (hj : j < 24) : ∃ x, wr.cell? ⟨B, j, none⟩ = some x := by
  obtain ⟨row, h1, h2, _⟩ := h.row
  exact ⟨row[j], by rw [cell_of_row _ _ _ _ _ _ h1, Array.getElem?_eq_getElem]⟩
theorem Buf.frozen {B k : Nat} {l : List UInt8} {w0 wr : World} (h : Buf B l k w0 wr) (j : Nat) : wr.frozen? ⟨B, j, none⟩ = false := by
  obtain ⟨row, h1, h2, _⟩ := h.row
  simp [World.frozen?, h1]
theorem Buf.put {k : Nat} {l : List UInt8} {w0 wr : World} (h : Buf w0.heap.size l (k + 1) w0 wr) (hk : k < 24) (b : UInt8) : Buf w0.heap.size (b :: l) k w0 (wr.setCell ⟨w0.heap.size, k, none⟩ (.int .u8 (b.toNat : Int))) := by
  obtain ⟨h1, h2, row, h3, h4, h5⟩ := h
  rw [setCell_eq_setRow _ _ _ _ _ _ _ h3]
  refine ⟨below_setRow h1 (Nat.le_refl _) _, by rw [setRow_size]; exact h2, _, setRow_heap _ _ _ _ _ _ h3, by simp [h4], fun j hj => ?_⟩
  cases j with
  | zero =>
    simp only [Nat.add_zero, List.getElem_cons_zero]
    rw [Array.getElem?_setIfInBounds, if_pos rfl, if_pos (by omega)]
  | succ j =>
    have := h5 j (by simpa using hj)
    simp only [List.getElem_cons_succ]
    rw [Array.getElem?_setIfInBounds, if_neg (by omega), ← this]
    congr 1; omega
theorem Buf.digit {k v n : Nat} {w0 wr : World} (h : Buf w0.heap.size (digs v n) (k + 1) w0 wr) (hk : k < 24) : Buf w0.heap.size (digs v (n + 1)) k w0 (wr.setCell ⟨w0.heap.size, k, none⟩ (.int .u8 ((48 + v / 10 ^ n % 10 : Nat) : Int))) := by
  have := h.put hk (UInt8.ofNat (48 + v / 10 ^ n % 10))
  have hm : (UInt8.ofNat (48 + v / 10 ^ n % 10)).toNat = 48 + v / 10 ^ n % 10 := by
    rw [UInt8.toNat_ofNat']; omega
  rw [hm] at this
  exact this

/-- The text. -/
theorem Buf.text {B k : Nat} {l : List UInt8} {w0 wr : World} (h : Buf B l k w0 wr) (n : Nat) (hn : l.length = n) (src dst e : TypeId) (cap : Nat) (hs : Tryd.prog.underlying src = some (.slice e)) (he : Tryd.prog.underlying e = some (.int .u8)) (hd : Tryd.prog.underlying dst = some .string) :
    (convert src dst (.slice (some ⟨B, k, none⟩) n cap)).run Tryd.prog wr = .ok (.string ⟨l.toArray⟩) wr := by
  subst hn
  obtain ⟨row, h1, h2, h3⟩ := h.row
  exact run_convert_bytes_back (P := Tryd.prog) wr src dst e ⟨B, k, none⟩ cap l hs he hd (fun j hj => by
    have ha : (⟨B, k, none⟩ : Addr).add j = ⟨B, k + j, none⟩ := by unfold Addr.add; split <;> simp_all
    rw [ha, cell_of_row _ _ _ _ _ _ h1]; exact h3 j hj)

set_option maxRecDepth 100000 in
set_option maxHeartbeats 2000000 in
theorem itoa_pos_tight (v : Nat) (w : World) (h0 : 0 < v) (h : v < 1000000000000000000) :
    Calls Tryd.prog 9 #[.int .i64 v] w fun e w' => ∃ n, e = .returned (.string ⟨(digs v n).toArray⟩) ∧ 0 < n ∧ n ≤ 18 ∧ v < 10 ^ n ∧ Below w.heap.size w w' ∧ 10 ^ (n - 1) ≤ v := by
  have hv : ((v : Int) == 0) = false := by rw [beq_eq_false_iff_ne]; omega
  have hv0 : ¬ (v : Int) < 0 := by omega
  have hvw : IntKind.u64.wrap (v : Int) = v := by rw [IntKind.wrap_u64]; omega
  go_enter Tryd.func9, Tryd.ntmps9
  go_wp2
  generalize hw1 : (w.alloc _) = w1
  have hB : Buf w.heap.size (digs v 0) 24 w w1 := by
    rw [← hw1]
    exact ⟨(Below.refl _ _).alloc (Nat.le_refl _) _, by simp, _, heap_alloc_new _ _, rfl, fun j hj => absurd hj (Nat.not_lt_zero _)⟩
  clear hw1
  have HB := Lib.hid hB
  clear hB
  go_loopw [4, 6] (fun u i wr => ∃ k n : Nat, k + n = 24 ∧ i = .int .i64 k ∧ u = .int .u64 (v / 10 ^ n : Nat) ∧ Buf w.heap.size (digs v n) k w wr ∧ (n = 0 ∨ 0 < v / 10 ^ (n - 1))) (fun _ i _ => (intOf i).toNat)
  case atStart => exact ⟨24, 0, rfl, rfl, by simp, HB.out, Or.inl rfl⟩
  case round =>
    obtain ⟨k, n, hkn, rfl, rfl, hb, hpos⟩ := hrel
    have hn18 : n ≤ 18 := by
      rcases hpos with rfl | hpos
      · omega
      · have h1 : 10 ^ (n - 1) ≤ v := by
          rcases Nat.lt_or_ge v (10 ^ (n - 1)) with h1 | h1
          · rw [Nat.div_eq_of_lt h1] at hpos; omega
          · exact h1
        have h2 : (10 : Nat) ^ (n - 1) < 10 ^ 18 := by omega
        have := (Nat.pow_lt_pow_iff_right (by omega : 1 < 10)).1 h2
        omega
    have HK := Lib.hid hb
    clear hb
    have hsucc : v / 10 ^ n / 10 = v / 10 ^ (n + 1) := by rw [Nat.div_div_eq_div_mul, Nat.pow_succ]
    obtain ⟨D, hD⟩ : ∃ D, v / 10 ^ n = D := ⟨_, rfl⟩
    by_cases hu : D = 0
    · subst hu
      have hvn : v < 10 ^ n := by
        rcases Nat.lt_or_ge v (10 ^ n) with h1 | h1
        · exact h1
        · have := Nat.div_pos h1 (Nat.pow_pos (by omega)); omega
      have hn0 : 0 < n := by
        rcases Nat.eq_zero_or_pos n with rfl | h1
        · rw [Nat.pow_zero] at hvn; omega
        · exact h1
      obtain rfl : n = 24 - k := by omega
      have htx := fun cap => HK.out.text (24 - k) (digs_length _ _) 34 9 5 cap Tryd.underlying34 Tryd.underlying5 Tryd.underlying9
      have g4 : (k : Int) ≤ 24 := by omega
      have g0 : (0 : Int) ≤ k := by omega
      have hlo : 10 ^ (24 - k - 1) ≤ v := by
        rcases hpos with h | h
        · omega
        · rcases Nat.lt_or_ge v (10 ^ (24 - k - 1)) with h1 | h1
          · rw [Nat.div_eq_of_lt h1] at h; omega
          · exact h1
      have HF := Lib.hid (show 0 < 24 - k ∧ 24 - k ≤ 18 ∧ v < 10 ^ (24 - k) ∧ 10 ^ (24 - k - 1) ≤ v from ⟨hn0, hn18, hvn, hlo⟩)
      have n1 : ¬ k = 24 := by omega
      have n2 : ¬ 24 ≤ k := by omega
      have n3 : ¬ 24 - k = 0 := by omega
      have n4 : ¬ (24 : Int) ≤ k := by omega
      have n5 : (k : Int) < 24 := by omega
      have n6 : ((k : Int) == 24) = false := by rw [beq_eq_false_iff_ne]; omega
      have n7 : k < 24 := by omega
      rw [hD]
      clear hD hvn hn0 hn18 hpos hlo
      go_wp2
      go_ret
      exact ⟨24 - k, rfl, HF.out.1, HF.out.2.1, HF.out.2.2.1, HK.out.bel, HF.out.2.2.2⟩
    · obtain ⟨k, rfl⟩ : ∃ k', k = k' + 1 := ⟨k - 1, by omega⟩
      have hDl : D < 1000000000000000000 := by
        have := Nat.div_le_self v (10 ^ n); omega
      obtain ⟨x, hx⟩ := HK.out.cell k (by omega)
      have hfz := HK.out.frozen k
      have hput := HK.out.digit (by omega)
      rw [hD] at hput hsucc ⊢
      have g0 : (0 : Int) < D := by omega
      have g1 : IntKind.i64.wrap (k : Int) = k := by rw [IntKind.wrap_i64]; omega
      have g2 : IntKind.u64.wrap (48 + (D : Int) % 10) = ((48 + D % 10 : Nat) : Int) := by rw [IntKind.wrap_u64]; omega
      have g3 : IntKind.u8.wrap ((48 + D % 10 : Nat) : Int) = ((48 + D % 10 : Nat) : Int) := by rw [IntKind.wrap_u8]; omega
      have g4 : (k : Int) < 24 := by omega
      have e48 : ((48 + D % 10 : Nat) : Int) = 48 + (D : Int) % 10 := by omega
      rw [e48] at g2 g3 hput
      go_wp2
      exact ⟨⟨k, n + 1, by omega, rfl, by rw [← hsucc]; simp, hput, Or.inr (by rw [Nat.add_sub_cancel, hD]; omega)⟩, by simp [intOf]⟩

theorem itoa_pos (v : Nat) (w : World) (h0 : 0 < v) (h : v < 1000000000000000000) :
    Calls Tryd.prog 9 #[.int .i64 v] w fun e w' => ∃ n, e = .returned (.string ⟨(digs v n).toArray⟩) ∧ 0 < n ∧ n ≤ 18 ∧ v < 10 ^ n ∧ Below w.heap.size w w' := by
  refine (itoa_pos_tight v w h0 h).mono ?_
  rintro e w' ⟨n, a1, a2, a3, a4, a5, _⟩
  exact ⟨n, a1, a2, a3, a4, a5⟩

set_option maxRecDepth 100000 in
set_option maxHeartbeats 2000000 in
theorem itoa_neg (v : Nat) (w : World) (h0 : 0 < v) (h : v < 1000000000000000000) :
    Calls Tryd.prog 9 #[.int .i64 (-(v : Int))] w fun e w' => ∃ n, e = .returned (.string ⟨((45 : UInt8) :: digs v n).toArray⟩) ∧ 0 < n ∧ n ≤ 18 ∧ v < 10 ^ n ∧ Below w.heap.size w w' := by
  have hv0 : -(v : Int) < 0 := by omega
  have hv1 : IntKind.i64.wrap (-(v : Int) + 1) = -(v : Int) + 1 := by rw [IntKind.wrap_i64]; omega
  have hv2 : IntKind.i64.wrap (-(-(v : Int) + 1)) = (v : Int) - 1 := by rw [IntKind.wrap_i64]; omega
  have hv2b : IntKind.i64.wrap (0 - (-(v : Int) + 1)) = (v : Int) - 1 := by rw [IntKind.wrap_i64]; omega
  have hv3 : IntKind.u64.wrap ((v : Int) - 1) = (v : Int) - 1 := by rw [IntKind.wrap_u64]; omega
  have hv4 : IntKind.u64.wrap ((v : Int) - 1 + 1) = v := by rw [IntKind.wrap_u64]; omega
  have hvw : IntKind.u64.wrap (v : Int) = v := by rw [IntKind.wrap_u64]; omega
  have hv : ((v : Int) == 0) = false := by rw [beq_eq_false_iff_ne]; omega
  go_enter Tryd.func9, Tryd.ntmps9
  go_wp2
  generalize hw1 : (w.alloc _) = w1
  have hB : Buf w.heap.size (digs v 0) 24 w w1 := by
    rw [← hw1]
    exact ⟨(Below.refl _ _).alloc (Nat.le_refl _) _, by simp, _, heap_alloc_new _ _, rfl, fun j hj => absurd hj (Nat.not_lt_zero _)⟩
  clear hw1
  have HB := Lib.hid hB
  clear hB
  go_loopw [4, 6] (fun u i wr => ∃ k n : Nat, k + n = 24 ∧ i = .int .i64 k ∧ u = .int .u64 (v / 10 ^ n : Nat) ∧ Buf w.heap.size (digs v n) k w wr ∧ (n = 0 ∨ 0 < v / 10 ^ (n - 1))) (fun _ i _ => (intOf i).toNat)
  case atStart => exact ⟨24, 0, rfl, rfl, by simp, HB.out, Or.inl rfl⟩
  case round =>
    obtain ⟨k, n, hkn, rfl, rfl, hb, hpos⟩ := hrel
    have hn18 : n ≤ 18 := by
      rcases hpos with rfl | hpos
      · omega
      · have h1 : 10 ^ (n - 1) ≤ v := by
          rcases Nat.lt_or_ge v (10 ^ (n - 1)) with h1 | h1
          · rw [Nat.div_eq_of_lt h1] at hpos; omega
          · exact h1
        have h2 : (10 : Nat) ^ (n - 1) < 10 ^ 18 := by omega
        have := (Nat.pow_lt_pow_iff_right (by omega : 1 < 10)).1 h2
        omega
    have HK := Lib.hid hb
    clear hb
    have hsucc : v / 10 ^ n / 10 = v / 10 ^ (n + 1) := by rw [Nat.div_div_eq_div_mul, Nat.pow_succ]
    obtain ⟨D, hD⟩ : ∃ D, v / 10 ^ n = D := ⟨_, rfl⟩
    by_cases hu : D = 0
    · subst hu
      have hvn : v < 10 ^ n := by
        rcases Nat.lt_or_ge v (10 ^ n) with h1 | h1
        · exact h1
        · have := Nat.div_pos h1 (Nat.pow_pos (by omega)); omega
      have hn0 : 0 < n := by
        rcases Nat.eq_zero_or_pos n with rfl | h1
        · rw [Nat.pow_zero] at hvn; omega
        · exact h1
      obtain ⟨k, rfl⟩ : ∃ k', k = k' + 1 := ⟨k - 1, by omega⟩
      obtain ⟨x, hx⟩ := HK.out.cell k (by omega)
      have hfz := HK.out.frozen k
      have hput := HK.out.put (by omega) 45
      have e45 : ((45 : UInt8).toNat : Int) = 45 := rfl
      rw [e45] at hput
      have htx := fun cap => hput.text (24 - k) (by simp [digs_length]; omega) 34 9 5 cap Tryd.underlying34 Tryd.underlying5 Tryd.underlying9
      have HF := Lib.hid (show 0 < n ∧ n ≤ 18 ∧ v < 10 ^ n from ⟨hn0, hn18, hvn⟩)
      have HP := Lib.hid hput.bel
      have g1 : IntKind.i64.wrap (k : Int) = k := by rw [IntKind.wrap_i64]; omega
      have g4 : (k : Int) ≤ 24 := by omega
      have g0 : (0 : Int) ≤ k := by omega
      have n1 : ¬ k = 24 := by omega
      have n2 : ¬ 24 ≤ k := by omega
      have n3 : ¬ 24 - k = 0 := by omega
      have n4 : ¬ (24 : Int) ≤ k := by omega
      have n5 : (k : Int) < 24 := by omega
      have n6 : ((k : Int) == 24) = false := by rw [beq_eq_false_iff_ne]; omega
      have n7 : k < 24 := by omega
      rw [hD]
      clear hD hvn hn0 hn18 hpos hput
      go_wp2
      go_ret
      exact ⟨n, rfl, HF.out.1, HF.out.2.1, HF.out.2.2, HP.out⟩
    · obtain ⟨k, rfl⟩ : ∃ k', k = k' + 1 := ⟨k - 1, by omega⟩
      have hDl : D < 1000000000000000000 := by
        have := Nat.div_le_self v (10 ^ n); omega
      obtain ⟨x, hx⟩ := HK.out.cell k (by omega)
      have hfz := HK.out.frozen k
      have hput := HK.out.digit (by omega)
      rw [hD] at hput hsucc ⊢
      have g0 : (0 : Int) < D := by omega
      have g1 : IntKind.i64.wrap (k : Int) = k := by rw [IntKind.wrap_i64]; omega
      have g2 : IntKind.u64.wrap (48 + (D : Int) % 10) = ((48 + D % 10 : Nat) : Int) := by rw [IntKind.wrap_u64]; omega
      have g3 : IntKind.u8.wrap ((48 + D % 10 : Nat) : Int) = ((48 + D % 10 : Nat) : Int) := by rw [IntKind.wrap_u8]; omega
      have g4 : (k : Int) < 24 := by omega
      have e48 : ((48 + D % 10 : Nat) : Int) = 48 + (D : Int) % 10 := by omega
      rw [e48] at g2 g3 hput
      go_wp2
      exact ⟨⟨k, n + 1, by omega, rfl, by rw [← hsucc]; simp, hput, Or.inr (by rw [Nat.add_sub_cancel, hD]; omega)⟩, by simp [intOf]⟩
end Go.Proofs.YtgdkncphmbdpjaaDoor
