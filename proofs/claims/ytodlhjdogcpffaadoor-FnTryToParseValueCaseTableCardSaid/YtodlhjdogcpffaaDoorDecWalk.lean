/- zzDec: the shortest plain decimal of m/10^d. -/
import Derived.Test.YtodlhjdogcpffaaDoorTextList
import Derived.Test.YtodlhjdogcpffaaDoorFmtSet
import Derived.Laws.IdiomStrings
namespace Go.Proofs.YtodlhjdogcpffaaDoor
open Go.RowKit

/-- The bytes l lie at the row's end, from place k on. -/
structure Buf (B : Nat) (l : List UInt8) (k : Nat) (w0 wr : World) : Prop where
  bel : Below w0.heap.size w0 wr
  siz : wr.heap.size = w0.heap.size + 1
  row : ∃ row : Array Value, wr.heap[B]? = some (.cells row 48 (0, 0)) ∧ row.size = 32 ∧ ∀ j (hj : j < l.length), row[k + j]? = some (.int .u8 (l[j].toNat : Int))

theorem Buf.cell {B k : Nat} {l : List UInt8} {w0 wr : World} (h : Buf B l k w0 wr) (j : Nat) (hj : j < 32) : ∃ x, wr.cell? ⟨B, j, none⟩ = some x := by
  obtain ⟨row, h1, h2, _⟩ := h.row
  exact ⟨row[j], by rw [cell_of_row _ _ _ _ _ _ h1, Array.getElem?_eq_getElem]⟩
theorem Buf.frozen {B k : Nat} {l : List UInt8} {w0 wr : World} (h : Buf B l k w0 wr) (j : Nat) : wr.frozen? ⟨B, j, none⟩ = false := by
  obtain ⟨row, h1, h2, _⟩ := h.row
  simp [World.frozen?, h1]
theorem Buf.put {k : Nat} {l : List UInt8} {w0 wr : World} (h : Buf w0.heap.size l (k + 1) w0 wr) (hk : k < 32) (b : UInt8) : Buf w0.heap.size (b :: l) k w0 (wr.setCell ⟨w0.heap.size, k, none⟩ (.int .u8 (b.toNat : Int))) := by
  obtain ⟨h1, h2, row, h3, h4, h5⟩ := h
  rw [setCell_eq_setRow _ _ _ _ _ _ _ h3]
  refine ⟨below_setRow h1 (Nat.le_refl _) _, by rw [setRow_size]; exact h2, _, setRow_heap _ _ _ _ _ _ h3, by simp [h4], fun j hj => ?_⟩
  cases j with
  | zero =>
    simp only [Nat.add_zero, List.getElem_cons_zero]
    rw [Array.getElem?_setIfInBounds, if_pos rfl, if_pos (by omega)]
  | succ j =>
    have := h5 j (by simpa using hj)
    simp only [List.getElem_cons_succ]
    rw [Array.getElem?_setIfInBounds, if_neg (by omega), ← this]
    congr 1; omega
theorem Buf.digit {k v n : Nat} {w0 wr : World} (h : Buf w0.heap.size (digs v n) (k + 1) w0 wr) (hk : k < 32) : Buf w0.heap.size (digs v (n + 1)) k w0 (wr.setCell ⟨w0.heap.size, k, none⟩ (.int .u8 ((48 + v / 10 ^ n % 10 : Nat) : Int))) := by
  have := h.put hk (UInt8.ofNat (48 + v / 10 ^ n % 10))
  have hm : (UInt8.ofNat (48 + v / 10 ^ n % 10)).toNat = 48 + v / 10 ^ n % 10 := by
    rw [UInt8.toNat_ofNat']; omega
  rw [hm] at this
  exact this

/-- The text. -/
theorem Buf.text {B k : Nat} {l : List UInt8} {w0 wr : World} (h : Buf B l k w0 wr) (n : Nat) (hn : l.length = n) (src dst e : TypeId) (cap : Nat) (hs : Tryd.prog.underlying src = some (.slice e)) (he : Tryd.prog.underlying e = some (.int .u8)) (hd : Tryd.prog.underlying dst = some .string) :
    (convert src dst (.slice (some ⟨B, k, none⟩) n cap)).run Tryd.prog wr = .ok (.string ⟨l.toArray⟩) wr := by
  subst hn
  obtain ⟨row, h1, h2, h3⟩ := h.row
  exact run_convert_bytes_back (P := Tryd.prog) wr src dst e ⟨B, k, none⟩ cap l hs he hd (fun j hj => by
    have ha : (⟨B, k, none⟩ : Addr).add j = ⟨B, k + j, none⟩ := by unfold Addr.add; split <;> simp_all
    rw [ha, cell_of_row _ _ _ _ _ _ h1]; exact h3 j hj)


/-- s is the shortest plain decimal of M/10^d with its sign. -/
def Shown (neg : Bool) (M d : Nat) (s : ByteArray) : Prop := ∃ j, j ≤ d ∧ (∀ i, j ≤ i → i < d → M / 10 ^ (d - 1 - i) % 10 = 0) ∧ (0 < j → M / 10 ^ (d - j) % 10 ≠ 0) ∧
  s = txt ((if neg then [45] else []) ++ (if d < Lib.nDigits M then digs (M / 10 ^ d) (Lib.nDigits M - d) else [48]) ++ (if j = 0 then [] else 46 :: (digs M d).take j))

theorem nDigits_tight (M n : Nat) (h0 : 0 < n) (h1 : M < 10 ^ n) (h2 : 10 ^ (n - 1) ≤ M) : Lib.nDigits M = n := by
  have := Lib.nDigits_unique (n - 1) M h2 (by rw [Nat.sub_add_cancel h0]; exact h1)
  omega
/-- The padded digits: before the point, behind it. -/
theorem head_digs (M d L : Nat) (_hd : 1 ≤ d) (hL : L = max (Lib.nDigits M) (d + 1)) : (digs M L).take (L - d) = (if d < Lib.nDigits M then digs (M / 10 ^ d) (Lib.nDigits M - d) else [48]) := by
  have e : L = (L - d) + d := by omega
  conv => lhs; rw [e]
  rw [Nat.add_sub_cancel, digs_take]
  by_cases h : d < Lib.nDigits M
  · rw [if_pos h]; congr 1; omega
  · rw [if_neg h]
    have h1 : L - d = 1 := by omega
    have h2 := Lib.lt_pow_nDigits M
    have h3 : 10 ^ Lib.nDigits M ≤ 10 ^ d := Nat.pow_le_pow_right (by omega) (by omega)
    rw [h1, Nat.div_eq_of_lt (by omega)]; rfl
theorem tail_digs (M d L : Nat) (hL : L = max (Lib.nDigits M) (d + 1)) : (digs M L).drop (L - d) = digs M d := by
  have e : L = (L - d) + d := by omega
  conv => lhs; rw [e]
  rw [Nat.add_sub_cancel, digs_drop]

set_option maxRecDepth 100000 in
set_option maxHeartbeats 4000000 in
theorem dec_pos (M d : Nat) (w : World) (hd1 : 1 ≤ d) (hd : d ≤ 4) (hM : 0 < M) (hM2 : M < 1000000000000000000) : Calls Tryd.prog 9 #[.int .i64 (M : Int), .int .i64 d] w fun e w' => ∃ s, e = .returned (.string s) ∧ Shown false M d s ∧ Below w.heap.size w w' := by
  have hv : ((M : Int) == 0) = false := by rw [beq_eq_false_iff_ne]; omega
  have hv0 : ¬ (M : Int) < 0 := by omega
  have hvw : IntKind.u64.wrap (M : Int) = M := by rw [IntKind.wrap_u64]; omega
  go_enter Tryd.func9, Tryd.ntmps9
  go_wp2
  generalize hw1 : (w.alloc _) = w1
  have hB : Buf w.heap.size (digs M 0) 32 w w1 := by
    rw [← hw1]
    exact ⟨(Below.refl _ _).alloc (Nat.le_refl _) _, by simp, _, heap_alloc_new _ _, rfl, fun j hj => absurd hj (Nat.not_lt_zero _)⟩
  clear hw1
  have HB := Lib.hid hB
  clear hB
  go_loopw [6, 8] (fun u i wr => ∃ k n : Nat, k + n = 32 ∧ i = .int .i64 k ∧ u = .int .u64 (M / 10 ^ n : Nat) ∧ Buf w.heap.size (digs M n) k w wr ∧ (n = 0 ∨ 0 < M / 10 ^ (n - 1))) (fun _ i _ => (intOf i).toNat)
  case atStart => exact ⟨32, 0, rfl, rfl, by simp, HB.out, Or.inl rfl⟩
  case round =>
    obtain ⟨k, n, hkn, rfl, rfl, hb, hpos⟩ := hrel
    have hn18 : n ≤ 18 := by
      rcases hpos with rfl | hpos
      · omega
      · have h1 : 10 ^ (n - 1) ≤ M := by
          rcases Nat.lt_or_ge M (10 ^ (n - 1)) with h1 | h1
          · rw [Nat.div_eq_of_lt h1] at hpos; omega
          · exact h1
        have h2 : (10 : Nat) ^ (n - 1) < 10 ^ 18 := by omega
        have := (Nat.pow_lt_pow_iff_right (by omega : 1 < 10)).1 h2
        omega
    have HK := Lib.hid hb
    clear hb
    have hsucc : M / 10 ^ n / 10 = M / 10 ^ (n + 1) := by rw [Nat.div_div_eq_div_mul, Nat.pow_succ]
    obtain ⟨D, hD⟩ : ∃ D, M / 10 ^ n = D := ⟨_, rfl⟩
    by_cases hu : D = 0
    · subst hu
      have hvn : M < 10 ^ n := by
        rcases Nat.lt_or_ge M (10 ^ n) with h1 | h1
        · exact h1
        · have := Nat.div_pos h1 (Nat.pow_pos (by omega)); omega
      have hn0 : 0 < n := by
        rcases Nat.eq_zero_or_pos n with rfl | h1
        · rw [Nat.pow_zero] at hvn; omega
        · exact h1
      have hlo : 10 ^ (n - 1) ≤ M := by
        rcases hpos with h | h
        · omega
        · rcases Nat.lt_or_ge M (10 ^ (n - 1)) with h1 | h1
          · rw [Nat.div_eq_of_lt h1] at h; omega
          · exact h1
      have hND := nDigits_tight M n hn0 hvn hlo
      obtain rfl : n = 32 - k := by omega
      obtain ⟨t, ht⟩ : ∃ t : ByteArray, t = txt (digs M (32 - k)) := ⟨_, rfl⟩
      have htx : ∀ cap, (convert 49 9 (.slice (some ⟨w.heap.size, k, none⟩) (32 - k) cap)).run Tryd.prog _ = .ok (.string t) _ := fun cap => by
        rw [ht]; exact HK.out.text (32 - k) (digs_length _ _) 49 9 5 cap Tryd.underlying49 Tryd.underlying5 Tryd.underlying9
      have hts : t.size = 32 - k := by rw [ht, txt_size, digs_length]
      have g4 : (k : Int) ≤ 32 := by omega
      have g0 : (0 : Int) ≤ k := by omega
      have HF := Lib.hid (And.intro ht (And.intro hvn hND))
      have n1 : ¬ k = 32 := by omega
      have n2 : ¬ 32 ≤ k := by omega
      have n3 : ¬ 32 - k = 0 := by omega
      have n4 : ¬ (32 : Int) ≤ k := by omega
      have n5 : (k : Int) < 32 := by omega
      have n6 : ((k : Int) == 32) = false := by rw [beq_eq_false_iff_ne]; omega
      have n7 : k < 32 := by omega
      have n8 : 14 ≤ k := by omega
      rw [hD]
      have hNk : 32 - k ≤ 18 := by omega
      have hNk0 : 0 < 32 - k := by omega
      have hbl := HK.out.bel
      clear hD hvn hn0 hn18 hpos hlo ht
      have HBL := Lib.hid hbl
      clear hbl
      go_wp2_with fail
      generalize 32 - k = N at *
      go_loopw [9] (fun g wr => ∃ (L : Nat) (t : ByteArray), g = .string t ∧ N ≤ L ∧ L ≤ max N (d + 1) ∧ t.size = L ∧ t = txt (digs M L) ∧ Below w.heap.size w wr) (fun g _ => match g with | .string t => 40 - t.size | _ => 0)
      case atStart => exact ⟨N, t, rfl, Nat.le_refl _, by omega, hts, HF.out.1, HBL.out⟩
      case round =>
        obtain ⟨L, t2, rfl, hL1, hL2, ht2s, ht2, hbl⟩ := hrel
        have H2 := Lib.hid (And.intro ht2 hbl)
        clear ht2 hbl
        have hL20 : L ≤ 20 := by omega
        rcases Nat.lt_or_ge L (d + 1) with hlt | hge
        · have hltI : (L : Int) < (d : Int) + 1 := by omega
          have hML : M < 10 ^ L := Nat.lt_of_lt_of_le HF.out.2.1 (Nat.pow_le_pow_right (by omega) hL1)
          have hcat : ({ data := #[48] } : ByteArray) ++ t2 = txt (digs M (L + 1)) := by
            rw [H2.out.1, show ({ data := #[48] } : ByteArray) = txt [48] from rfl, txt_append, digs_pad M L hML]; rfl
          have hcs : (({ data := #[48] } : ByteArray) ++ t2).size = L + 1 := by rw [hcat, txt_size, digs_length]
          have HC := Lib.hid (And.intro hcat hcs)
          clear hcat hcs hML
          go_wp2
          exact ⟨⟨L + 1, _, rfl, by omega, by omega, HC.out.2, HC.out.1, H2.out.2⟩, by dsimp only; rw [HC.out.2, ht2s]; omega⟩
        · have hgeI : ¬ (L : Int) < (d : Int) + 1 := by omega
          have hLm : L = max (Lib.nDigits M) (d + 1) := by rw [HF.out.2.2]; omega
          obtain ⟨ip, hip⟩ : ∃ ip, t2.extract 0 (L - d) = ip := ⟨_, rfl⟩
          obtain ⟨fp, hfp⟩ : ∃ fp, t2.extract (L - d) L = fp := ⟨_, rfl⟩
          have hip2 : ip = txt (if d < Lib.nDigits M then digs (M / 10 ^ d) (Lib.nDigits M - d) else [48]) := by
            rw [← hip, H2.out.1, txt_extract, List.drop_zero, head_digs M d L hd1 hLm]
          have hfp2 : fp = txt ((digs M d).take d) := by
            rw [← hfp, H2.out.1, txt_extract, List.take_of_length_le (by rw [digs_length]; exact Nat.le_refl _), tail_digs M d L hLm, List.take_of_length_le (by rw [digs_length]; exact Nat.le_refl _)]
          have hfs : fp.size = d := by rw [hfp2, txt_size, List.length_take, digs_length]; omega
          have his : ip.size ≤ 20 := by rw [← hip, ByteArray.size_extract]; omega
          have H3 := Lib.hid (And.intro hip2 hfp2)
          have hdI : (d : Int) ≤ L := by omega
          have hLd : ((L : Int) - d) = ((L - d : Nat) : Int) := by omega
          clear hip2 hfp2 hLm
          go_wp2_with fail
          go_loopw [11] (fun g wr => ∃ (j : Nat) (f : ByteArray), g = .string f ∧ j ≤ d ∧ f.size = j ∧ f = txt ((digs M d).take j) ∧ (∀ i, j ≤ i → i < d → M / 10 ^ (d - 1 - i) % 10 = 0) ∧ Below w.heap.size w wr) (fun g _ => match g with | .string t => t.size | _ => 0)
          case atStart => exact ⟨d, fp, rfl, Nat.le_refl _, hfs, H3.out.2, fun i h1 h2 => by omega, H2.out.2⟩
          case round =>
            obtain ⟨j, f, rfl, hj, hfj, hf, hz, hbl⟩ := hrel
            have H4 := Lib.hid (And.intro hf (And.intro hz hbl))
            clear hf hz hbl
            rcases Nat.eq_zero_or_pos j with rfl | hj0
            · have hfe : f = ByteArray.empty := by
                apply ByteArray.ext; apply Array.ext
                · exact hfj
                · intro i h1 h2; exact absurd h2 (Nat.not_lt_zero _)
              have hfin : Shown false M d (ip) := ⟨0, Nat.zero_le _, H4.out.2.1, fun h => absurd h (Nat.lt_irrefl 0), by rw [H3.out.1]; simp⟩
              have H5 := Lib.hid hfin
              clear hfin
              subst hfe
              go_wp2
              go_ret
              exact ⟨_, rfl, H5.out, H4.out.2.2⟩
            · obtain ⟨j, rfl⟩ : ∃ j', j = j' + 1 := ⟨j - 1, by omega⟩
              have hlt : j < f.size := by omega
              have hbyte : f[j].toNat = 48 + M / 10 ^ (d - 1 - j) % 10 := by
                have h1 : f[j] = (txt ((digs M d).take (j + 1)))[j]'(by rw [← H4.out.1]; exact hlt) := by
                  congr 1; exact H4.out.1
                rw [h1, txt_get, List.getElem_take, digs_get, digit_nat]
              obtain ⟨c, hc⟩ : ∃ c, M / 10 ^ (d - 1 - j) % 10 = c := ⟨_, rfl⟩
              rw [hc] at hbyte
              have HC := Lib.hid hc
              clear hc
              have hjI : (0 : Int) < (j : Int) + 1 := by omega
              have hj4 : j < 4 := by omega
              rcases Nat.eq_zero_or_pos c with rfl | hc0
              · have hbI : ((f[j].toNat : Int) == 48) = true := by rw [hbyte]; rfl
                have hx : f.extract 0 j = txt ((digs M d).take j) := by
                  rw [H4.out.1, txt_extract, List.drop_zero, List.take_take, Nat.min_eq_left (by omega)]
                have hxs : (f.extract 0 j).size = j := by rw [hx, txt_size, List.length_take, digs_length]; omega
                have HX := Lib.hid (And.intro hx hxs)
                clear hx hxs
                go_wp2
                exact ⟨⟨j, _, rfl, by omega, HX.out.2, HX.out.1, fun i h1 h2 => by
                  rcases Nat.lt_or_ge j i with h3 | h3
                  · exact H4.out.2.1 i h3 h2
                  · have : i = j := by omega
                    subst this; exact HC.out, H4.out.2.2⟩, by dsimp only; rw [HX.out.2]; omega⟩
              · have hbI : ((f[j].toNat : Int) == 48) = false := by rw [hbyte, beq_eq_false_iff_ne]; omega
                have hfne : ¬ f = ByteArray.empty := by rintro rfl; simp at hlt
                have hfl : f.toList.isEmpty = false := by
                  rw [ByteArray.toList_eq]
                  cases hl : f.data.toList with
                  | nil => exact absurd (show f.size = 0 from by have := congrArg List.length hl; simpa using this) (by omega)
                  | cons _ _ => rfl
                have hfin : Shown false M d ((ip ++ ({ data := #[46] } : ByteArray)) ++ f) := ⟨j + 1, hj, H4.out.2.1, fun _ => by
                  rw [show d - (j + 1) = d - 1 - j by omega, HC.out]; omega, by rw [H3.out.1, H4.out.1]; rw [show ({ data := #[46] } : ByteArray) = txt [46] from rfl, txt_append, txt_append, if_neg (Nat.succ_ne_zero j)]; simp⟩
                have H5 := Lib.hid hfin
                clear hfin
                go_wp2
                go_ret
                exact ⟨_, rfl, H5.out, H4.out.2.2⟩
    · obtain ⟨k, rfl⟩ : ∃ k', k = k' + 1 := ⟨k - 1, by omega⟩
      have hDl : D < 1000000000000000000 := by
        have := Nat.div_le_self M (10 ^ n); omega
      obtain ⟨x, hx⟩ := HK.out.cell k (by omega)
      have hfz := HK.out.frozen k
      have hput := HK.out.digit (by omega)
      rw [hD] at hput hsucc ⊢
      have g0 : (0 : Int) < D := by omega
      have g1 : IntKind.i64.wrap (k : Int) = k := by rw [IntKind.wrap_i64]; omega
      have g2 : IntKind.u64.wrap (48 + (D : Int) % 10) = ((48 + D % 10 : Nat) : Int) := by rw [IntKind.wrap_u64]; omega
      have g3 : IntKind.u8.wrap ((48 + D % 10 : Nat) : Int) = ((48 + D % 10 : Nat) : Int) := by rw [IntKind.wrap_u8]; omega
      have g4 : (k : Int) < 32 := by omega
      have e48 : ((48 + D % 10 : Nat) : Int) = 48 + (D : Int) % 10 := by omega
      rw [e48] at g2 g3 hput
      go_wp2
      exact ⟨⟨k, n + 1, by omega, rfl, by rw [← hsucc]; simp, hput, Or.inr (by rw [Nat.add_sub_cancel, hD]; omega)⟩, by simp [intOf]⟩

set_option maxRecDepth 100000 in
set_option maxHeartbeats 4000000 in
theorem dec_neg (M d : Nat) (w : World) (hd1 : 1 ≤ d) (hd : d ≤ 4) (hM : 0 < M) (hM2 : M < 1000000000000000000) : Calls Tryd.prog 9 #[.int .i64 (-(M : Int)), .int .i64 d] w fun e w' => ∃ s, e = .returned (.string s) ∧ Shown true M d s ∧ Below w.heap.size w w' := by
  have hv0 : -(M : Int) < 0 := by omega
  have hv1 : IntKind.i64.wrap (-(-(M : Int))) = M := by rw [IntKind.wrap_i64]; omega
  have hv2 : -(-(M : Int)) = M := by omega
  have hvw : IntKind.u64.wrap (M : Int) = M := by rw [IntKind.wrap_u64]; omega
  have hv : ((M : Int) == 0) = false := by rw [beq_eq_false_iff_ne]; omega
  go_enter Tryd.func9, Tryd.ntmps9
  go_wp2
  generalize hw1 : (w.alloc _) = w1
  have hB : Buf w.heap.size (digs M 0) 32 w w1 := by
    rw [← hw1]
    exact ⟨(Below.refl _ _).alloc (Nat.le_refl _) _, by simp, _, heap_alloc_new _ _, rfl, fun j hj => absurd hj (Nat.not_lt_zero _)⟩
  clear hw1
  have HB := Lib.hid hB
  clear hB
  go_loopw [6, 8] (fun u i wr => ∃ k n : Nat, k + n = 32 ∧ i = .int .i64 k ∧ u = .int .u64 (M / 10 ^ n : Nat) ∧ Buf w.heap.size (digs M n) k w wr ∧ (n = 0 ∨ 0 < M / 10 ^ (n - 1))) (fun _ i _ => (intOf i).toNat)
  case atStart => exact ⟨32, 0, rfl, rfl, by simp, HB.out, Or.inl rfl⟩
  case round =>
    obtain ⟨k, n, hkn, rfl, rfl, hb, hpos⟩ := hrel
    have hn18 : n ≤ 18 := by
      rcases hpos with rfl | hpos
      · omega
      · have h1 : 10 ^ (n - 1) ≤ M := by
          rcases Nat.lt_or_ge M (10 ^ (n - 1)) with h1 | h1
          · rw [Nat.div_eq_of_lt h1] at hpos; omega
          · exact h1
        have h2 : (10 : Nat) ^ (n - 1) < 10 ^ 18 := by omega
        have := (Nat.pow_lt_pow_iff_right (by omega : 1 < 10)).1 h2
        omega
    have HK := Lib.hid hb
    clear hb
    have hsucc : M / 10 ^ n / 10 = M / 10 ^ (n + 1) := by rw [Nat.div_div_eq_div_mul, Nat.pow_succ]
    obtain ⟨D, hD⟩ : ∃ D, M / 10 ^ n = D := ⟨_, rfl⟩
    by_cases hu : D = 0
    · subst hu
      have hvn : M < 10 ^ n := by
        rcases Nat.lt_or_ge M (10 ^ n) with h1 | h1
        · exact h1
        · have := Nat.div_pos h1 (Nat.pow_pos (by omega)); omega
      have hn0 : 0 < n := by
        rcases Nat.eq_zero_or_pos n with rfl | h1
        · rw [Nat.pow_zero] at hvn; omega
        · exact h1
      have hlo : 10 ^ (n - 1) ≤ M := by
        rcases hpos with h | h
        · omega
        · rcases Nat.lt_or_ge M (10 ^ (n - 1)) with h1 | h1
          · rw [Nat.div_eq_of_lt h1] at h; omega
          · exact h1
      have hND := nDigits_tight M n hn0 hvn hlo
      obtain rfl : n = 32 - k := by omega
      obtain ⟨t, ht⟩ : ∃ t : ByteArray, t = txt (digs M (32 - k)) := ⟨_, rfl⟩
      have htx : ∀ cap, (convert 49 9 (.slice (some ⟨w.heap.size, k, none⟩) (32 - k) cap)).run Tryd.prog _ = .ok (.string t) _ := fun cap => by
        rw [ht]; exact HK.out.text (32 - k) (digs_length _ _) 49 9 5 cap Tryd.underlying49 Tryd.underlying5 Tryd.underlying9
      have hts : t.size = 32 - k := by rw [ht, txt_size, digs_length]
      have g4 : (k : Int) ≤ 32 := by omega
      have g0 : (0 : Int) ≤ k := by omega
      have HF := Lib.hid (And.intro ht (And.intro hvn hND))
      have n1 : ¬ k = 32 := by omega
      have n2 : ¬ 32 ≤ k := by omega
      have n3 : ¬ 32 - k = 0 := by omega
      have n4 : ¬ (32 : Int) ≤ k := by omega
      have n5 : (k : Int) < 32 := by omega
      have n6 : ((k : Int) == 32) = false := by rw [beq_eq_false_iff_ne]; omega
      have n7 : k < 32 := by omega
      have n8 : 14 ≤ k := by omega
      rw [hD]
      have hNk : 32 - k ≤ 18 := by omega
      have hNk0 : 0 < 32 - k := by omega
      have hbl := HK.out.bel
      clear hD hvn hn0 hn18 hpos hlo ht
      have HBL := Lib.hid hbl
      clear hbl
      go_wp2_with fail
      generalize 32 - k = N at *
      go_loopw [9] (fun g wr => ∃ (L : Nat) (t : ByteArray), g = .string t ∧ N ≤ L ∧ L ≤ max N (d + 1) ∧ t.size = L ∧ t = txt (digs M L) ∧ Below w.heap.size w wr) (fun g _ => match g with | .string t => 40 - t.size | _ => 0)
      case atStart => exact ⟨N, t, rfl, Nat.le_refl _, by omega, hts, HF.out.1, HBL.out⟩
      case round =>
        obtain ⟨L, t2, rfl, hL1, hL2, ht2s, ht2, hbl⟩ := hrel
        have H2 := Lib.hid (And.intro ht2 hbl)
        clear ht2 hbl
        have hL20 : L ≤ 20 := by omega
        rcases Nat.lt_or_ge L (d + 1) with hlt | hge
        · have hltI : (L : Int) < (d : Int) + 1 := by omega
          have hML : M < 10 ^ L := Nat.lt_of_lt_of_le HF.out.2.1 (Nat.pow_le_pow_right (by omega) hL1)
          have hcat : ({ data := #[48] } : ByteArray) ++ t2 = txt (digs M (L + 1)) := by
            rw [H2.out.1, show ({ data := #[48] } : ByteArray) = txt [48] from rfl, txt_append, digs_pad M L hML]; rfl
          have hcs : (({ data := #[48] } : ByteArray) ++ t2).size = L + 1 := by rw [hcat, txt_size, digs_length]
          have HC := Lib.hid (And.intro hcat hcs)
          clear hcat hcs hML
          go_wp2
          exact ⟨⟨L + 1, _, rfl, by omega, by omega, HC.out.2, HC.out.1, H2.out.2⟩, by dsimp only; rw [HC.out.2, ht2s]; omega⟩
        · have hgeI : ¬ (L : Int) < (d : Int) + 1 := by omega
          have hLm : L = max (Lib.nDigits M) (d + 1) := by rw [HF.out.2.2]; omega
          obtain ⟨ip, hip⟩ : ∃ ip, t2.extract 0 (L - d) = ip := ⟨_, rfl⟩
          obtain ⟨fp, hfp⟩ : ∃ fp, t2.extract (L - d) L = fp := ⟨_, rfl⟩
          have hip2 : ip = txt (if d < Lib.nDigits M then digs (M / 10 ^ d) (Lib.nDigits M - d) else [48]) := by
            rw [← hip, H2.out.1, txt_extract, List.drop_zero, head_digs M d L hd1 hLm]
          have hfp2 : fp = txt ((digs M d).take d) := by
            rw [← hfp, H2.out.1, txt_extract, List.take_of_length_le (by rw [digs_length]; exact Nat.le_refl _), tail_digs M d L hLm, List.take_of_length_le (by rw [digs_length]; exact Nat.le_refl _)]
          have hfs : fp.size = d := by rw [hfp2, txt_size, List.length_take, digs_length]; omega
          have his : ip.size ≤ 20 := by rw [← hip, ByteArray.size_extract]; omega
          have H3 := Lib.hid (And.intro hip2 hfp2)
          have hdI : (d : Int) ≤ L := by omega
          have hLd : ((L : Int) - d) = ((L - d : Nat) : Int) := by omega
          clear hip2 hfp2 hLm
          go_wp2_with fail
          go_loopw [11] (fun g wr => ∃ (j : Nat) (f : ByteArray), g = .string f ∧ j ≤ d ∧ f.size = j ∧ f = txt ((digs M d).take j) ∧ (∀ i, j ≤ i → i < d → M / 10 ^ (d - 1 - i) % 10 = 0) ∧ Below w.heap.size w wr) (fun g _ => match g with | .string t => t.size | _ => 0)
          case atStart => exact ⟨d, fp, rfl, Nat.le_refl _, hfs, H3.out.2, fun i h1 h2 => by omega, H2.out.2⟩
          case round =>
            obtain ⟨j, f, rfl, hj, hfj, hf, hz, hbl⟩ := hrel
            have H4 := Lib.hid (And.intro hf (And.intro hz hbl))
            clear hf hz hbl
            rcases Nat.eq_zero_or_pos j with rfl | hj0
            · have hfe : f = ByteArray.empty := by
                apply ByteArray.ext; apply Array.ext
                · exact hfj
                · intro i h1 h2; exact absurd h2 (Nat.not_lt_zero _)
              have hfin : Shown true M d (({ data := #[45] } : ByteArray) ++ ip) := ⟨0, Nat.zero_le _, H4.out.2.1, fun h => absurd h (Nat.lt_irrefl 0), by rw [H3.out.1]; rw [show ({ data := #[45] } : ByteArray) = txt [45] from rfl, txt_append]; simp⟩
              have H5 := Lib.hid hfin
              clear hfin
              subst hfe
              go_wp2
              go_ret
              exact ⟨_, rfl, H5.out, H4.out.2.2⟩
            · obtain ⟨j, rfl⟩ : ∃ j', j = j' + 1 := ⟨j - 1, by omega⟩
              have hlt : j < f.size := by omega
              have hbyte : f[j].toNat = 48 + M / 10 ^ (d - 1 - j) % 10 := by
                have h1 : f[j] = (txt ((digs M d).take (j + 1)))[j]'(by rw [← H4.out.1]; exact hlt) := by
                  congr 1; exact H4.out.1
                rw [h1, txt_get, List.getElem_take, digs_get, digit_nat]
              obtain ⟨c, hc⟩ : ∃ c, M / 10 ^ (d - 1 - j) % 10 = c := ⟨_, rfl⟩
              rw [hc] at hbyte
              have HC := Lib.hid hc
              clear hc
              have hjI : (0 : Int) < (j : Int) + 1 := by omega
              have hj4 : j < 4 := by omega
              rcases Nat.eq_zero_or_pos c with rfl | hc0
              · have hbI : ((f[j].toNat : Int) == 48) = true := by rw [hbyte]; rfl
                have hx : f.extract 0 j = txt ((digs M d).take j) := by
                  rw [H4.out.1, txt_extract, List.drop_zero, List.take_take, Nat.min_eq_left (by omega)]
                have hxs : (f.extract 0 j).size = j := by rw [hx, txt_size, List.length_take, digs_length]; omega
                have HX := Lib.hid (And.intro hx hxs)
                clear hx hxs
                go_wp2
                exact ⟨⟨j, _, rfl, by omega, HX.out.2, HX.out.1, fun i h1 h2 => by
                  rcases Nat.lt_or_ge j i with h3 | h3
                  · exact H4.out.2.1 i h3 h2
                  · have : i = j := by omega
                    subst this; exact HC.out, H4.out.2.2⟩, by dsimp only; rw [HX.out.2]; omega⟩
              · have hbI : ((f[j].toNat : Int) == 48) = false := by rw [hbyte, beq_eq_false_iff_ne]; omega
                have hfne : ¬ f = ByteArray.empty := by rintro rfl; simp at hlt
                have hfl : f.toList.isEmpty = false := by
                  rw [ByteArray.toList_eq]
                  cases hl : f.data.toList with
                  | nil => exact absurd (show f.size = 0 from by have := congrArg List.length hl; simpa using this) (by omega)
                  | cons _ _ => rfl
                have hfin : Shown true M d (({ data := #[45] } : ByteArray) ++ ((ip ++ ({ data := #[46] } : ByteArray)) ++ f)) := ⟨j + 1, hj, H4.out.2.1, fun _ => by
                  rw [show d - (j + 1) = d - 1 - j by omega, HC.out]; omega, by rw [H3.out.1, H4.out.1]; rw [show ({ data := #[45] } : ByteArray) = txt [45] from rfl, show ({ data := #[46] } : ByteArray) = txt [46] from rfl, txt_append, txt_append, txt_append, if_neg (Nat.succ_ne_zero j)]; simp⟩
                have H5 := Lib.hid hfin
                clear hfin
                go_wp2
                go_ret
                exact ⟨_, rfl, H5.out, H4.out.2.2⟩
    · obtain ⟨k, rfl⟩ : ∃ k', k = k' + 1 := ⟨k - 1, by omega⟩
      have hDl : D < 1000000000000000000 := by
        have := Nat.div_le_self M (10 ^ n); omega
      obtain ⟨x, hx⟩ := HK.out.cell k (by omega)
      have hfz := HK.out.frozen k
      have hput := HK.out.digit (by omega)
      rw [hD] at hput hsucc ⊢
      have g0 : (0 : Int) < D := by omega
      have g1 : IntKind.i64.wrap (k : Int) = k := by rw [IntKind.wrap_i64]; omega
      have g2 : IntKind.u64.wrap (48 + (D : Int) % 10) = ((48 + D % 10 : Nat) : Int) := by rw [IntKind.wrap_u64]; omega
      have g3 : IntKind.u8.wrap ((48 + D % 10 : Nat) : Int) = ((48 + D % 10 : Nat) : Int) := by rw [IntKind.wrap_u8]; omega
      have g4 : (k : Int) < 32 := by omega
      have e48 : ((48 + D % 10 : Nat) : Int) = 48 + (D : Int) % 10 := by omega
      rw [e48] at g2 g3 hput
      go_wp2
      exact ⟨⟨k, n + 1, by omega, rfl, by rw [← hsucc]; simp, hput, Or.inr (by rw [Nat.add_sub_cancel, hD]; omega)⟩, by simp [intOf]⟩

set_option maxRecDepth 100000 in
set_option maxHeartbeats 4000000 in
theorem dec_zero (d : Nat) (w : World) (hd1 : 1 ≤ d) (hd : d ≤ 4) : Calls Tryd.prog 9 #[.int .i64 0, .int .i64 d] w fun e w' => ∃ s, e = .returned (.string s) ∧ Shown false 0 d s ∧ Below w.heap.size w w' := by
  go_enter Tryd.func9, Tryd.ntmps9
  go_wp2_with fail
  generalize hw1 : (w.alloc _) = w1
  have hB : Buf w.heap.size (digs 0 1) 31 w w1 := by
    rw [← hw1]
    refine ⟨(Below.refl _ _).alloc (Nat.le_refl _) _, by simp, _, heap_alloc_new _ _, rfl, fun j hj => ?_⟩
    obtain rfl : j = 0 := by rw [digs_length] at hj; omega
    rfl
  clear hw1
  have HK := Lib.hid hB
  clear hB
  obtain ⟨t, ht⟩ : ∃ t : ByteArray, t = txt (digs 0 1) := ⟨_, rfl⟩
  have htx : ∀ cap, (convert 49 9 (.slice (some ⟨w.heap.size, 31, none⟩) 1 cap)).run Tryd.prog w1 = .ok (.string t) w1 := fun cap => by
    rw [ht]; exact HK.out.text 1 (digs_length _ _) 49 9 5 cap Tryd.underlying49 Tryd.underlying5 Tryd.underlying9
  have hts : t.size = 1 := by rw [ht, txt_size, digs_length]
  have HF := Lib.hid (And.intro ht (And.intro (show 0 < 10 ^ 1 by decide) (show Lib.nDigits 0 = 1 from Lib.nDigits_small (by omega))))
  clear ht
  have HBL := Lib.hid HK.out.bel
  refine wp_loop_rounds 1 ?_
  rw [rounds_succ]
  go_wp2_with fail
  obtain ⟨N, hN⟩ : ∃ N, N = 1 := ⟨_, rfl⟩
  rw [← hN] at HF hts
  have hNk : N ≤ 18 := by omega
  clear htx hN
  go_loopw [9] (fun g wr => ∃ (L : Nat) (t : ByteArray), g = .string t ∧ N ≤ L ∧ L ≤ max N (d + 1) ∧ t.size = L ∧ t = txt (digs 0 L) ∧ Below w.heap.size w wr) (fun g _ => match g with | .string t => 40 - t.size | _ => 0)
  case atStart => exact ⟨N, t, rfl, Nat.le_refl _, by omega, hts, HF.out.1, HBL.out⟩
  case round =>
    obtain ⟨L, t2, rfl, hL1, hL2, ht2s, ht2, hbl⟩ := hrel
    have H2 := Lib.hid (And.intro ht2 hbl)
    clear ht2 hbl
    have hL20 : L ≤ 20 := by omega
    rcases Nat.lt_or_ge L (d + 1) with hlt | hge
    · have hltI : (L : Int) < (d : Int) + 1 := by omega
      have hML : 0 < 10 ^ L := Nat.lt_of_lt_of_le HF.out.2.1 (Nat.pow_le_pow_right (by omega) hL1)
      have hcat : ({ data := #[48] } : ByteArray) ++ t2 = txt (digs 0 (L + 1)) := by
        rw [H2.out.1, show ({ data := #[48] } : ByteArray) = txt [48] from rfl, txt_append, digs_pad 0 L hML]; rfl
      have hcs : (({ data := #[48] } : ByteArray) ++ t2).size = L + 1 := by rw [hcat, txt_size, digs_length]
      have HC := Lib.hid (And.intro hcat hcs)
      clear hcat hcs hML
      go_wp2
      exact ⟨⟨L + 1, _, rfl, by omega, by omega, HC.out.2, HC.out.1, H2.out.2⟩, by dsimp only; rw [HC.out.2, ht2s]; omega⟩
    · have hgeI : ¬ (L : Int) < (d : Int) + 1 := by omega
      have hLm : L = max (Lib.nDigits 0) (d + 1) := by rw [HF.out.2.2]; omega
      obtain ⟨ip, hip⟩ : ∃ ip, t2.extract 0 (L - d) = ip := ⟨_, rfl⟩
      obtain ⟨fp, hfp⟩ : ∃ fp, t2.extract (L - d) L = fp := ⟨_, rfl⟩
      have hip2 : ip = txt (if d < Lib.nDigits 0 then digs (0 / 10 ^ d) (Lib.nDigits 0 - d) else [48]) := by
        rw [← hip, H2.out.1, txt_extract, List.drop_zero, head_digs 0 d L hd1 hLm]
      have hfp2 : fp = txt ((digs 0 d).take d) := by
        rw [← hfp, H2.out.1, txt_extract, List.take_of_length_le (by rw [digs_length]; exact Nat.le_refl _), tail_digs 0 d L hLm, List.take_of_length_le (by rw [digs_length]; exact Nat.le_refl _)]
      have hfs : fp.size = d := by rw [hfp2, txt_size, List.length_take, digs_length]; omega
      have his : ip.size ≤ 20 := by rw [← hip, ByteArray.size_extract]; omega
      have H3 := Lib.hid (And.intro hip2 hfp2)
      have hdI : (d : Int) ≤ L := by omega
      have hLd : ((L : Int) - d) = ((L - d : Nat) : Int) := by omega
      clear hip2 hfp2 hLm
      go_wp2_with fail
      go_loopw [11] (fun g wr => ∃ (j : Nat) (f : ByteArray), g = .string f ∧ j ≤ d ∧ f.size = j ∧ f = txt ((digs 0 d).take j) ∧ (∀ i, j ≤ i → i < d → 0 / 10 ^ (d - 1 - i) % 10 = 0) ∧ Below w.heap.size w wr) (fun g _ => match g with | .string t => t.size | _ => 0)
      case atStart => exact ⟨d, fp, rfl, Nat.le_refl _, hfs, H3.out.2, fun i h1 h2 => by omega, H2.out.2⟩
      case round =>
        obtain ⟨j, f, rfl, hj, hfj, hf, hz, hbl⟩ := hrel
        have H4 := Lib.hid (And.intro hf (And.intro hz hbl))
        clear hf hz hbl
        rcases Nat.eq_zero_or_pos j with rfl | hj0
        · have hfe : f = ByteArray.empty := by
            apply ByteArray.ext; apply Array.ext
            · exact hfj
            · intro i h1 h2; exact absurd h2 (Nat.not_lt_zero _)
          have hfin : Shown false 0 d (ip) := ⟨0, Nat.zero_le _, H4.out.2.1, fun h => absurd h (Nat.lt_irrefl 0), by rw [H3.out.1]; simp⟩
          have H5 := Lib.hid hfin
          clear hfin
          subst hfe
          go_wp2
          go_ret
          exact ⟨_, rfl, H5.out, H4.out.2.2⟩
        · obtain ⟨j, rfl⟩ : ∃ j', j = j' + 1 := ⟨j - 1, by omega⟩
          have hlt : j < f.size := by omega
          have hbyte : f[j].toNat = 48 + 0 / 10 ^ (d - 1 - j) % 10 := by
            have h1 : f[j] = (txt ((digs 0 d).take (j + 1)))[j]'(by rw [← H4.out.1]; exact hlt) := by
              congr 1; exact H4.out.1
            rw [h1, txt_get, List.getElem_take, digs_get, digit_nat]
          obtain ⟨c, hc⟩ : ∃ c, 0 / 10 ^ (d - 1 - j) % 10 = c := ⟨_, rfl⟩
          rw [hc] at hbyte
          have HC := Lib.hid hc
          clear hc
          have hjI : (0 : Int) < (j : Int) + 1 := by omega
          have hj4 : j < 4 := by omega
          rcases Nat.eq_zero_or_pos c with rfl | hc0
          · have hbI : ((f[j].toNat : Int) == 48) = true := by rw [hbyte]; rfl
            have hx : f.extract 0 j = txt ((digs 0 d).take j) := by
              rw [H4.out.1, txt_extract, List.drop_zero, List.take_take, Nat.min_eq_left (by omega)]
            have hxs : (f.extract 0 j).size = j := by rw [hx, txt_size, List.length_take, digs_length]; omega
            have HX := Lib.hid (And.intro hx hxs)
            clear hx hxs
            go_wp2
            exact ⟨⟨j, _, rfl, by omega, HX.out.2, HX.out.1, fun i h1 h2 => by
              rcases Nat.lt_or_ge j i with h3 | h3
              · exact H4.out.2.1 i h3 h2
              · have : i = j := by omega
                subst this; exact HC.out, H4.out.2.2⟩, by dsimp only; rw [HX.out.2]; omega⟩
          · have hbI : ((f[j].toNat : Int) == 48) = false := by rw [hbyte, beq_eq_false_iff_ne]; omega
            have hfne : ¬ f = ByteArray.empty := by rintro rfl; simp at hlt
            have hfl : f.toList.isEmpty = false := by
              rw [ByteArray.toList_eq]
              cases hl : f.data.toList with
              | nil => exact absurd (show f.size = 0 from by have := congrArg List.length hl; simpa using this) (by omega)
              | cons _ _ => rfl
            have hfin : Shown false 0 d ((ip ++ ({ data := #[46] } : ByteArray)) ++ f) := ⟨j + 1, hj, H4.out.2.1, fun _ => by
              rw [show d - (j + 1) = d - 1 - j by omega, HC.out]; omega, by rw [H3.out.1, H4.out.1]; rw [show ({ data := #[46] } : ByteArray) = txt [46] from rfl, txt_append, txt_append, if_neg (Nat.succ_ne_zero j)]; simp⟩
            have H5 := Lib.hid hfin
            clear hfin
            go_wp2
            go_ret
            exact ⟨_, rfl, H5.out, H4.out.2.2⟩
end Go.Proofs.YtodlhjdogcpffaaDoor
