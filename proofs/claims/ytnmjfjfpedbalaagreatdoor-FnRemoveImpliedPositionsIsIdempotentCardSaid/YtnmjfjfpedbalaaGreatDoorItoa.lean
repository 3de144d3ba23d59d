/- The program's own Itoa (github.com/evanw/esbuild/n011_258.zzItoa): the decimal text of a whole number; that text is a whole number's text. -/
import Derived.Test.YtnmjfjfpedbalaaGreatDoorParseNum
import Derived.Laws.IdiomStrings
namespace Go.Proofs.YtnmjfjfpedbalaaGreatDoor
open Go.RowKit


/-- The last n decimal digits of v. -/
def digs (v : Nat) : Nat → List UInt8
  | 0 => []
  | n + 1 => UInt8.ofNat (48 + v / 10 ^ n % 10) :: digs v n
theorem digs_length (v : Nat) : ∀ n, (digs v n).length = n
  | 0 => rfl
  | n + 1 => by rw [digs, List.length_cons, digs_length v n]

/-- The bytes l lie at the row's end, from place k on. -/
structure Buf (B : Nat) (l : List UInt8) (k : Nat) (w0 wr : World) : Prop where
  bel : Below w0.heap.size w0 wr
  siz : wr.heap.size = w0.heap.size + 1
  row : ∃ row : Array Value, wr.heap[B]? = some (.cells row 80 (0, 0)) ∧ row.size = 24 ∧ ∀ j (hj : j < l.length), row[k + j]? = some (.int .u8 (l[j].toNat : Int))

theorem Buf.cell {B k : Nat} {l : List UInt8} {w0 wr : World} (h : Buf B l k w0 wr) (j : Nat) (hj : j < 24) : ∃ x, wr.cell? ⟨B, j, none⟩ = some x := by
  obtain ⟨row, h1, h2, _⟩ := h.row
  exact ⟨row[j], by rw [cell_of_row _ _ _ _ _ _ h1, Array.getElem?_eq_getElem]⟩
theorem Buf.frozen {B k : Nat} {l : List UInt8} {w0 wr : World} (h : Buf B l k w0 wr) (j : Nat) : wr.frozen? ⟨B, j, none⟩ = false := by
  obtain ⟨row, h1, h2, _⟩ := h.row
  simp [World.frozen?, h1]
theorem Buf.put {k : Nat} {l : List UInt8} {w0 wr : World} (h : Buf w0.heap.size l (k + 1) w0 wr) (hk : k < 24) (b : UInt8) : Buf w0.heap.size (b :: l) k w0 (wr.setCell ⟨w0.heap.size, k, none⟩ (.int .u8 (b.toNat : Int))) := by
  obtain ⟨h1, h2, row, h3, h4, h5⟩ := h
  rw [setCell_eq_setRow _ _ _ _ _ _ _ h3]
  refine ⟨below_setRow h1 (Nat.le_refl _) _, by rw [setRow_size]; exact h2, _, setRow_heap _ _ _ _ _ _ h3, by simp [h4], fun j hj => ?_⟩
  cases j with
  | zero =>
    simp only [Nat.add_zero, List.getElem_cons_zero]
    rw [Array.getElem?_setIfInBounds, if_pos rfl, if_pos (by omega)]
  | succ j =>
    have := h5 j (by simpa using hj)
    simp only [List.getElem_cons_succ]
    rw [Array.getElem?_setIfInBounds, if_neg (by omega), ← this]
    congr 1; omega
theorem Buf.digit {k v n : Nat} {w0 wr : World} (h : Buf w0.heap.size (digs v n) (k + 1) w0 wr) (hk : k < 24) : Buf w0.heap.size (digs v (n + 1)) k w0 (wr.setCell ⟨w0.heap.size, k, none⟩ (.int .u8 ((48 + v / 10 ^ n % 10 : Nat) : Int))) := by
  have := h.put hk (UInt8.ofNat (48 + v / 10 ^ n % 10))
  have hm : (UInt8.ofNat (48 + v / 10 ^ n % 10)).toNat = 48 + v / 10 ^ n % 10 := by
    rw [UInt8.toNat_ofNat']; omega
  rw [hm] at this
  exact this

/-- The text. -/
theorem Buf.text {B k : Nat} {l : List UInt8} {w0 wr : World} (h : Buf B l k w0 wr) (n : Nat) (hn : l.length = n) (src dst e : TypeId) (cap : Nat) (hs : Tryz.prog.underlying src = some (.slice e)) (he : Tryz.prog.underlying e = some (.int .u8)) (hd : Tryz.prog.underlying dst = some .string) :
    (convert src dst (.slice (some ⟨B, k, none⟩) n cap)).run Tryz.prog wr = .ok (.string ⟨l.toArray⟩) wr := by
  subst hn
  obtain ⟨row, h1, h2, h3⟩ := h.row
  exact run_convert_bytes_back (P := Tryz.prog) wr src dst e ⟨B, k, none⟩ cap l hs he hd (fun j hj => by
    have ha : (⟨B, k, none⟩ : Addr).add j = ⟨B, k + j, none⟩ := by unfold Addr.add; split <;> simp_all
    rw [ha, cell_of_row _ _ _ _ _ _ h1]; exact h3 j hj)

set_option maxRecDepth 100000 in
set_option maxHeartbeats 2000000 in
theorem itoa_pos_tight (v : Nat) (w : World) (h0 : 0 < v) (h : v < 1000000000000000000) :
    Calls Tryz.prog 29 #[.int .i64 v] w fun e w' => ∃ n, e = .returned (.string ⟨(digs v n).toArray⟩) ∧ 0 < n ∧ n ≤ 18 ∧ v < 10 ^ n ∧ Below w.heap.size w w' ∧ 10 ^ (n - 1) ≤ v := by
  have hv : ((v : Int) == 0) = false := by rw [beq_eq_false_iff_ne]; omega
  have hv0 : ¬ (v : Int) < 0 := by omega
  have hvw : IntKind.u64.wrap (v : Int) = v := by rw [IntKind.wrap_u64]; omega
  go_enter Tryz.func29, Tryz.ntmps29
  go_wp2
  generalize hw1 : (w.alloc _) = w1
  have hB : Buf w.heap.size (digs v 0) 24 w w1 := by
    rw [← hw1]
    exact ⟨(Below.refl _ _).alloc (Nat.le_refl _) _, by simp, _, heap_alloc_new _ _, rfl, fun j hj => absurd hj (Nat.not_lt_zero _)⟩
  clear hw1
  have HB := Lib.hid hB
  clear hB
  go_loopw [0, 5] (fun u i wr => ∃ k n : Nat, k + n = 24 ∧ i = .int .i64 k ∧ u = .int .i64 (v / 10 ^ n : Nat) ∧ Buf w.heap.size (digs v n) k w wr ∧ (n = 0 ∨ 0 < v / 10 ^ (n - 1))) (fun _ i _ => (intOf i).toNat)
  case atStart => exact ⟨24, 0, rfl, rfl, by simp, HB.out, Or.inl rfl⟩
  case round =>
    obtain ⟨k, n, hkn, rfl, rfl, hb, hpos⟩ := hrel
    have hn18 : n ≤ 18 := by
      rcases hpos with rfl | hpos
      · omega
      · have h1 : 10 ^ (n - 1) ≤ v := by
          rcases Nat.lt_or_ge v (10 ^ (n - 1)) with h1 | h1
          · rw [Nat.div_eq_of_lt h1] at hpos; omega
          · exact h1
        have h2 : (10 : Nat) ^ (n - 1) < 10 ^ 18 := by omega
        have := (Nat.pow_lt_pow_iff_right (by omega : 1 < 10)).1 h2
        omega
    have HK := Lib.hid hb
    clear hb
    have hsucc : v / 10 ^ n / 10 = v / 10 ^ (n + 1) := by rw [Nat.div_div_eq_div_mul, Nat.pow_succ]
    obtain ⟨D, hD⟩ : ∃ D, v / 10 ^ n = D := ⟨_, rfl⟩
    by_cases hu : D = 0
    · subst hu
      have hvn : v < 10 ^ n := by
        rcases Nat.lt_or_ge v (10 ^ n) with h1 | h1
        · exact h1
        · have := Nat.div_pos h1 (Nat.pow_pos (by omega)); omega
      have hn0 : 0 < n := by
        rcases Nat.eq_zero_or_pos n with rfl | h1
        · rw [Nat.pow_zero] at hvn; omega
        · exact h1
      obtain rfl : n = 24 - k := by omega
      have htx := fun cap => HK.out.text (24 - k) (digs_length _ _) 22 9 5 cap Tryz.underlying22 Tryz.underlying5 Tryz.underlying9
      have g4 : (k : Int) ≤ 24 := by omega
      have g0 : (0 : Int) ≤ k := by omega
      have hlo : 10 ^ (24 - k - 1) ≤ v := by
        rcases hpos with h | h
        · omega
        · rcases Nat.lt_or_ge v (10 ^ (24 - k - 1)) with h1 | h1
          · rw [Nat.div_eq_of_lt h1] at h; omega
          · exact h1
      have HF := Lib.hid (show 0 < 24 - k ∧ 24 - k ≤ 18 ∧ v < 10 ^ (24 - k) ∧ 10 ^ (24 - k - 1) ≤ v from ⟨hn0, hn18, hvn, hlo⟩)
      have n1 : ¬ k = 24 := by omega
      have n2 : ¬ 24 ≤ k := by omega
      have n3 : ¬ 24 - k = 0 := by omega
      have n4 : ¬ (24 : Int) ≤ k := by omega
      have n5 : (k : Int) < 24 := by omega
      have n6 : ((k : Int) == 24) = false := by rw [beq_eq_false_iff_ne]; omega
      have n7 : k < 24 := by omega
      rw [hD]
      clear hD hvn hn0 hn18 hpos hlo
      go_wp2
      go_ret
      exact ⟨24 - k, rfl, HF.out.1, HF.out.2.1, HF.out.2.2.1, HK.out.bel, HF.out.2.2.2⟩
    · obtain ⟨k, rfl⟩ : ∃ k', k = k' + 1 := ⟨k - 1, by omega⟩
      have hDl : D < 1000000000000000000 := by
        have := Nat.div_le_self v (10 ^ n); omega
      obtain ⟨x, hx⟩ := HK.out.cell k (by omega)
      have hfz := HK.out.frozen k
      have hput := HK.out.digit (by omega)
      rw [hD] at hput hsucc ⊢
      have g0 : (0 : Int) < D := by omega
      have g1 : IntKind.i64.wrap (k : Int) = k := by rw [IntKind.wrap_i64]; omega
      have g2 : IntKind.u64.wrap (48 + (D : Int) % 10) = ((48 + D % 10 : Nat) : Int) := by rw [IntKind.wrap_u64]; omega
      have g3 : IntKind.u8.wrap ((48 + D % 10 : Nat) : Int) = ((48 + D % 10 : Nat) : Int) := by rw [IntKind.wrap_u8]; omega
      have g4 : (k : Int) < 24 := by omega
      have e48 : ((48 + D % 10 : Nat) : Int) = 48 + (D : Int) % 10 := by omega
      rw [e48] at g2 g3 hput
      go_wp2
      exact ⟨⟨k, n + 1, by omega, rfl, by rw [← hsucc]; simp, hput, Or.inr (by rw [Nat.add_sub_cancel, hD]; omega)⟩, by simp [intOf]⟩

theorem itoa_pos (v : Nat) (w : World) (h0 : 0 < v) (h : v < 1000000000000000000) :
    Calls Tryz.prog 29 #[.int .i64 v] w fun e w' => ∃ n, e = .returned (.string ⟨(digs v n).toArray⟩) ∧ 0 < n ∧ n ≤ 18 ∧ v < 10 ^ n ∧ Below w.heap.size w w' := by
  refine (itoa_pos_tight v w h0 h).mono ?_
  rintro e w' ⟨n, a1, a2, a3, a4, a5, _⟩
  exact ⟨n, a1, a2, a3, a4, a5⟩

set_option maxRecDepth 100000 in
set_option maxHeartbeats 2000000 in
theorem itoa_neg_tight (v : Nat) (w : World) (h0 : 0 < v) (h : v < 1000000000000000000) :
    Calls Tryz.prog 29 #[.int .i64 (-(v : Int))] w fun e w' => ∃ n, e = .returned (.string ⟨((45 : UInt8) :: digs v n).toArray⟩) ∧ 0 < n ∧ n ≤ 18 ∧ v < 10 ^ n ∧ Below w.heap.size w w' ∧ 10 ^ (n - 1) ≤ v := by
  have hv0 : -(v : Int) < 0 := by omega
  have hv1 : IntKind.i64.wrap (-(v : Int) + 1) = -(v : Int) + 1 := by rw [IntKind.wrap_i64]; omega
  have hv2 : IntKind.i64.wrap (-(-(v : Int) + 1)) = (v : Int) - 1 := by rw [IntKind.wrap_i64]; omega
  have hv2b : IntKind.i64.wrap (0 - (-(v : Int) + 1)) = (v : Int) - 1 := by rw [IntKind.wrap_i64]; omega
  have hv3 : IntKind.u64.wrap ((v : Int) - 1) = (v : Int) - 1 := by rw [IntKind.wrap_u64]; omega
  have hv4 : IntKind.u64.wrap ((v : Int) - 1 + 1) = v := by rw [IntKind.wrap_u64]; omega
  have hvw : IntKind.u64.wrap (v : Int) = v := by rw [IntKind.wrap_u64]; omega
  have hv : ((v : Int) == 0) = false := by rw [beq_eq_false_iff_ne]; omega
  go_enter Tryz.func29, Tryz.ntmps29
  go_wp2
  generalize hw1 : (w.alloc _) = w1
  have hB : Buf w.heap.size (digs v 0) 24 w w1 := by
    rw [← hw1]
    exact ⟨(Below.refl _ _).alloc (Nat.le_refl _) _, by simp, _, heap_alloc_new _ _, rfl, fun j hj => absurd hj (Nat.not_lt_zero _)⟩
  clear hw1
  have HB := Lib.hid hB
  clear hB
  go_loopw [0, 5] (fun u i wr => ∃ k n : Nat, k + n = 24 ∧ i = .int .i64 k ∧ u = .int .i64 (v / 10 ^ n : Nat) ∧ Buf w.heap.size (digs v n) k w wr ∧ (n = 0 ∨ 0 < v / 10 ^ (n - 1))) (fun _ i _ => (intOf i).toNat)
  case atStart => exact ⟨24, 0, rfl, rfl, by simp, HB.out, Or.inl rfl⟩
  case round =>
    obtain ⟨k, n, hkn, rfl, rfl, hb, hpos⟩ := hrel
    have hn18 : n ≤ 18 := by
      rcases hpos with rfl | hpos
      · omega
      · have h1 : 10 ^ (n - 1) ≤ v := by
          rcases Nat.lt_or_ge v (10 ^ (n - 1)) with h1 | h1
          · rw [Nat.div_eq_of_lt h1] at hpos; omega
          · exact h1
        have h2 : (10 : Nat) ^ (n - 1) < 10 ^ 18 := by omega
        have := (Nat.pow_lt_pow_iff_right (by omega : 1 < 10)).1 h2
        omega
    have HK := Lib.hid hb
    clear hb
    have hsucc : v / 10 ^ n / 10 = v / 10 ^ (n + 1) := by rw [Nat.div_div_eq_div_mul, Nat.pow_succ]
    obtain ⟨D, hD⟩ : ∃ D, v / 10 ^ n = D := ⟨_, rfl⟩
    by_cases hu : D = 0
    · subst hu
      have hvn : v < 10 ^ n := by
        rcases Nat.lt_or_ge v (10 ^ n) with h1 | h1
        · exact h1
        · have := Nat.div_pos h1 (Nat.pow_pos (by omega)); omega
      have hn0 : 0 < n := by
        rcases Nat.eq_zero_or_pos n with rfl | h1
        · rw [Nat.pow_zero] at hvn; omega
        · exact h1
      obtain ⟨k, rfl⟩ : ∃ k', k = k' + 1 := ⟨k - 1, by omega⟩
      obtain ⟨x, hx⟩ := HK.out.cell k (by omega)
      have hfz := HK.out.frozen k
      have hput := HK.out.put (by omega) 45
      have e45 : ((45 : UInt8).toNat : Int) = 45 := rfl
      rw [e45] at hput
      have htx := fun cap => hput.text (24 - k) (by simp [digs_length]; omega) 22 9 5 cap Tryz.underlying22 Tryz.underlying5 Tryz.underlying9
      have hlo : 10 ^ (n - 1) ≤ v := by
        rcases hpos with h | h
        · omega
        · rcases Nat.lt_or_ge v (10 ^ (n - 1)) with h1 | h1
          · rw [Nat.div_eq_of_lt h1] at h; omega
          · exact h1
      have HF := Lib.hid (show 0 < n ∧ n ≤ 18 ∧ v < 10 ^ n ∧ 10 ^ (n - 1) ≤ v from ⟨hn0, hn18, hvn, hlo⟩)
      have HP := Lib.hid hput.bel
      have g1 : IntKind.i64.wrap (k : Int) = k := by rw [IntKind.wrap_i64]; omega
      have g4 : (k : Int) ≤ 24 := by omega
      have g0 : (0 : Int) ≤ k := by omega
      have n1 : ¬ k = 24 := by omega
      have n2 : ¬ 24 ≤ k := by omega
      have n3 : ¬ 24 - k = 0 := by omega
      have n4 : ¬ (24 : Int) ≤ k := by omega
      have n5 : (k : Int) < 24 := by omega
      have n6 : ((k : Int) == 24) = false := by rw [beq_eq_false_iff_ne]; omega
      have n7 : k < 24 := by omega
      rw [hD]
      clear hD hvn hn0 hn18 hpos hput hlo
      go_wp2
      go_ret
      exact ⟨n, rfl, HF.out.1, HF.out.2.1, HF.out.2.2.1, HP.out, HF.out.2.2.2⟩
    · obtain ⟨k, rfl⟩ : ∃ k', k = k' + 1 := ⟨k - 1, by omega⟩
      have hDl : D < 1000000000000000000 := by
        have := Nat.div_le_self v (10 ^ n); omega
      obtain ⟨x, hx⟩ := HK.out.cell k (by omega)
      have hfz := HK.out.frozen k
      have hput := HK.out.digit (by omega)
      rw [hD] at hput hsucc ⊢
      have g0 : (0 : Int) < D := by omega
      have g1 : IntKind.i64.wrap (k : Int) = k := by rw [IntKind.wrap_i64]; omega
      have g2 : IntKind.u64.wrap (48 + (D : Int) % 10) = ((48 + D % 10 : Nat) : Int) := by rw [IntKind.wrap_u64]; omega
      have g3 : IntKind.u8.wrap ((48 + D % 10 : Nat) : Int) = ((48 + D % 10 : Nat) : Int) := by rw [IntKind.wrap_u8]; omega
      have g4 : (k : Int) < 24 := by omega
      have e48 : ((48 + D % 10 : Nat) : Int) = 48 + (D : Int) % 10 := by omega
      rw [e48] at g2 g3 hput
      go_wp2
      exact ⟨⟨k, n + 1, by omega, rfl, by rw [← hsucc]; simp, hput, Or.inr (by rw [Nat.add_sub_cancel, hD]; omega)⟩, by simp [intOf]⟩

theorem itoa_neg (v : Nat) (w : World) (h0 : 0 < v) (h : v < 1000000000000000000) :
    Calls Tryz.prog 29 #[.int .i64 (-(v : Int))] w fun e w' => ∃ n, e = .returned (.string ⟨((45 : UInt8) :: digs v n).toArray⟩) ∧ 0 < n ∧ n ≤ 18 ∧ v < 10 ^ n ∧ Below w.heap.size w w' := by
  refine (itoa_neg_tight v w h0 h).mono ?_
  rintro e w' ⟨n, a1, a2, a3, a4, a5, _⟩
  exact ⟨n, a1, a2, a3, a4, a5⟩

theorem whole_of (s : ByteArray) (neg : Bool) (v N : Nat) (hsz : s.size = neg.toNat + N) (hN : 0 < N) (hN18 : N ≤ 18) (hv : v < 10 ^ N) (hvs : v < 4503599627370496) (hm : neg = true → ∀ h : 0 < s.size, s[0].toNat = 45)
    (hc : ∀ j (h : neg.toNat + j < s.size), s[neg.toNat + j].toNat = 48 + v / 10 ^ (N - 1 - j) % 10) : Whole s neg v := by
  generalize hk : neg.toNat = k0 at *
  have key : ∀ n, n ≤ N → (rs s k0 n).dot = false ∧ (0 < n → (rs s k0 n).sd = true) ∧ ((rs s k0 n).nd = 0 → (rs s k0 n).mant = 0) ∧ (rs s k0 n).mant = v / 10 ^ (N - n) := by
    intro n
    induction n with
    | zero => intro _; simp [rs, Nat.div_eq_of_lt hv]
    | succ n ih =>
      intro hn
      obtain ⟨i1, i2, i3, i4⟩ := ih (by omega)
      rw [rs_succ s k0 n (by omega), hc n (by omega)]
      have e1 : v / 10 ^ (N - n) = v / 10 ^ (N - 1 - n) / 10 := by
        rw [Nat.div_div_eq_div_mul, ← Nat.pow_succ]; congr 2; omega
      have e2 : N - (n + 1) = N - 1 - n := by omega
      rw [e1] at i4
      rw [e2]
      generalize v / 10 ^ (N - 1 - n) = D at *
      generalize rs s k0 n = r at *
      unfold RS.step
      rw [if_neg (by omega)]
      split
      · rename_i h
        refine ⟨i1, fun _ => rfl, i3, ?_⟩
        have := i3 h.2
        dsimp only
        omega
      · refine ⟨i1, fun _ => rfl, fun h => by simp at h, ?_⟩
        dsimp only
        omega
  obtain ⟨j1, j2, j3, j4⟩ := key N (Nat.le_refl _)
  have hsub : s.size - k0 = N := by omega
  rw [Nat.sub_self, Nat.pow_zero, Nat.div_one] at j4
  refine ⟨?_, hm, ?_, ?_, hvs⟩
  · rw [hk]
    refine ⟨by omega, by omega, by rw [hsub]; exact j2 hN, fun n hn => Or.inr ?_⟩
    rw [hc n hn]
    omega
  · rw [hk, hsub]; exact j4
  · rw [hk, hsub]
    unfold RS.exp
    rw [j1]
    split
    · rfl
    · simp

theorem digs_get (v : Nat) : ∀ n j (h : j < (digs v n).length), (digs v n)[j] = UInt8.ofNat (48 + v / 10 ^ (n - 1 - j) % 10)
  | 0, j, h => absurd h (Nat.not_lt_zero _)
  | n + 1, 0, h => by simp [digs]
  | n + 1, j + 1, h => by
    have := digs_get v n j (by rw [digs_length] at h ⊢; omega)
    simp only [digs, List.getElem_cons_succ]
    have e : n + 1 - 1 - (j + 1) = n - 1 - j := by omega
    rw [this, e]
theorem digit_nat (D : Nat) : (UInt8.ofNat (48 + D % 10)).toNat = 48 + D % 10 := by
  rw [UInt8.toNat_ofNat']; omega

theorem whole_pos (v n : Nat) (h0 : 0 < n) (h1 : n ≤ 18) (h2 : v < 10 ^ n) (h3 : v < 4503599627370496) : Whole ⟨(digs v n).toArray⟩ false v := by
  have hl := digs_length v n
  refine whole_of _ false v n (by show (digs v n).toArray.size = _; simp [hl]) h0 h1 h2 h3 (fun h => by cases h) (fun j hj => ?_)
  have hj' : j < (digs v n).length := by
    have : (⟨(digs v n).toArray⟩ : ByteArray).size = (digs v n).length := by show (digs v n).toArray.size = _; simp
    simpa [this] using hj
  have e : (⟨(digs v n).toArray⟩ : ByteArray)[false.toNat + j] = (digs v n)[j] := by
    show (digs v n).toArray[false.toNat + j]'_ = _
    simp
  rw [e, digs_get, digit_nat]

theorem whole_neg (v n : Nat) (h0 : 0 < n) (h1 : n ≤ 18) (h2 : v < 10 ^ n) (h3 : v < 4503599627370496) : Whole ⟨((45 : UInt8) :: digs v n).toArray⟩ true v := by
  have hl := digs_length v n
  have hsz : (⟨((45 : UInt8) :: digs v n).toArray⟩ : ByteArray).size = n + 1 := by show ((45 : UInt8) :: digs v n).toArray.size = _; simp [hl]
  refine whole_of _ true v n (by rw [hsz]; exact Nat.add_comm _ _) h0 h1 h2 h3 (fun _ _ => rfl) (fun j hj => ?_)
  have hj' : j < (digs v n).length := by rw [hsz] at hj; simp at hj; omega
  have e : (⟨((45 : UInt8) :: digs v n).toArray⟩ : ByteArray)[true.toNat + j] = (digs v n)[j] := by
    show ((45 : UInt8) :: digs v n).toArray[true.toNat + j]'_ = _
    simp [Nat.add_comm 1 j]
  rw [e, digs_get, digit_nat]

set_option maxRecDepth 100000 in
theorem itoa_zero (w : World) : Calls Tryz.prog 29 #[.int .i64 0] w fun e w' => e = .returned (.string ⟨#[48]⟩) ∧ w = w' := by
  go_enter Tryz.func29, Tryz.ntmps29
  go_wp2
  go_ret
  exact ⟨rfl, rfl⟩

/-- The decimal text of n. -/
def Spells (n : Int) (t : ByteArray) : Prop := Whole t (decide (n < 0)) n.natAbs

theorem itoa_any (n : Int) (w : World) (h1 : -2147483648 ≤ n) (h2 : n ≤ 2147483647) :
    Calls Tryz.prog 29 #[.int .i64 n] w fun e w' => ∃ t, e = .returned (.string t) ∧ Spells n t ∧ Below w.heap.size w w' := by
  unfold Spells
  rcases Int.lt_trichotomy n 0 with h | h | h
  · obtain ⟨v, rfl⟩ : ∃ v : Nat, n = -(v : Int) := ⟨n.natAbs, by omega⟩
    refine (itoa_neg v w (by omega) (by omega)).mono ?_
    rintro e w' ⟨k, rfl, a1, a2, a3, a4⟩
    refine ⟨_, rfl, ?_, a4⟩
    have e1 : decide (-(v : Int) < 0) = true := by simp; omega
    have e2 : (-(v : Int)).natAbs = v := by omega
    rw [e1, e2]
    exact whole_neg v k a1 a2 a3 (by omega)
  · subst h
    refine (itoa_zero w).mono ?_
    rintro e w' ⟨rfl, rfl⟩
    exact ⟨_, rfl, whole_pos 0 1 (by omega) (by omega) (by omega) (by omega), Below.refl _ _⟩
  · obtain ⟨v, rfl⟩ : ∃ v : Nat, n = (v : Int) := ⟨n.natAbs, by omega⟩
    refine (itoa_pos v w (by omega) (by omega)).mono ?_
    rintro e w' ⟨k, rfl, a1, a2, a3, a4⟩
    refine ⟨_, rfl, ?_, a4⟩
    have e1 : decide ((v : Int) < 0) = false := by simp
    have e2 : ((v : Int)).natAbs = v := by omega
    rw [e1, e2]
    exact whole_pos v k a1 a2 a3 (by omega)

/-- The text of a whole number, byte for byte. -/
def IsInt (n : Int) (t : ByteArray) : Prop := ∃ N, 0 < N ∧ N ≤ 18 ∧ n.natAbs < 10 ^ N ∧ 10 ^ (N - 1) ≤ n.natAbs + 1 ∧ t = ⟨((if n < 0 then [45] else []) ++ digs n.natAbs N).toArray⟩
theorem itoa_int (n : Int) (w : World) (h1 : -1000000000000000000 < n) (h2 : n < 1000000000000000000) :
    Calls Tryz.prog 29 #[.int .i64 n] w fun e w' => ∃ t, e = .returned (.string t) ∧ IsInt n t ∧ Below w.heap.size w w' := by
  rcases Int.lt_trichotomy n 0 with h | h | h
  · obtain ⟨v, rfl⟩ : ∃ v : Nat, n = -(v : Int) := ⟨n.natAbs, by omega⟩
    refine (itoa_neg_tight v w (by omega) (by omega)).mono ?_
    rintro e w' ⟨k, rfl, a1, a2, a3, a4, a5⟩
    have e2 : (-(v : Int)).natAbs = v := by omega
    exact ⟨_, rfl, ⟨k, a1, a2, by rw [e2]; exact a3, by rw [e2]; omega, by rw [e2, if_pos h]; rfl⟩, a4⟩
  · subst h
    refine (itoa_zero w).mono ?_
    rintro e w' ⟨rfl, rfl⟩
    exact ⟨_, rfl, ⟨1, by omega, by omega, by decide, by decide, by decide⟩, Below.refl _ _⟩
  · obtain ⟨v, rfl⟩ : ∃ v : Nat, n = (v : Int) := ⟨n.natAbs, by omega⟩
    refine (itoa_pos_tight v w (by omega) (by omega)).mono ?_
    rintro e w' ⟨k, rfl, a1, a2, a3, a4, a5⟩
    have e2 : ((v : Int)).natAbs = v := by omega
    exact ⟨_, rfl, ⟨k, a1, a2, by rw [e2]; exact a3, by rw [e2]; omega, by rw [e2, if_neg (by omega)]; rfl⟩, a4⟩
theorem IsInt.whole {n : Int} {t : ByteArray} (h : IsInt n t) (hs : n.natAbs < 4503599627370496) : Whole t (decide (n < 0)) n.natAbs := by
  obtain ⟨N, h1, h2, h3, _, rfl⟩ := h
  by_cases hn : n < 0
  · rw [if_pos hn, show decide (n < 0) = true by simpa using hn]
    exact whole_neg n.natAbs N h1 h2 h3 hs
  · rw [if_neg hn, show decide (n < 0) = false by simpa using hn]
    exact whole_pos n.natAbs N h1 h2 h3 hs
end Go.Proofs.YtnmjfjfpedbalaaGreatDoor
