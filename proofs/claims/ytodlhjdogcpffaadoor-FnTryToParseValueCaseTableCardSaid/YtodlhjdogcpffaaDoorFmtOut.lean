/- fmtEFG at 'f': the text of m/10^k with k decimals. -/
import Derived.Test.YtodlhjdogcpffaaDoorFmtSet
import Derived.OwnWalk
import Derived.Test.YtodlhjdogcpffaaDoorDigs
namespace Go.Proofs.YtodlhjdogcpffaaDoor
open Go.RowKit

def byteV : UInt8 → Value := fun b => .int .u8 (b.toNat : Int)
/-- The n bytes l lie in the call's own row D, of 24 cells; the digits of m lie in the block B. -/
structure Out (D B m n : Nat) (l : List UInt8) (w0 w : World) : Prop where
  own : w.ownsRow w0.heap.size 5 1 (.slice (some ⟨D, 0, none⟩) n 24) n (l.map byteV)
  bel : Below w0.heap.size w0 w
  dig : DigRow B m w
  apart : B ≠ D

theorem Out.base {D B m n : Nat} {l : List UInt8} {w0 w : World} (h : Out D B m n l w0 w) : w0.heap.size ≤ D ∧ n ≤ 24 ∧ l.length = n := by
  obtain ⟨h0, h1 | ⟨g, cap, cur, h1, h2, _, h3, _⟩⟩ := h.own
  · cases h1.1
  · simp only [Value.slice.injEq, Option.some.injEq, Addr.mk.injEq] at h1
    simp at h0
    omega
theorem Out.push {D B m n : Nat} {l : List UInt8} {w0 w w' : World} {o : Obj} (h : Out D B m n l w0 w) (c : UInt8) (ho : w'.ownsRow w0.heap.size 5 1 (.slice (some ⟨D, 0, none⟩) (n + 1) 24) (n + 1) (l.map byteV ++ [byteV c])) (hg : (w.alloc o).grownBy w' (some D)) : Out D B m (n + 1) (l ++ [c]) w0 w' := by
  have hb := h.base.1
  refine ⟨?_, ?_, ?_, h.apart⟩
  · rw [List.map_append]; exact ho
  · exact (h.bel.alloc h.bel.size o).grown hg (by simp; exact Nat.le_succ_of_le h.bel.size) (fun k hk => by cases hk; exact hb)
  · intro j hj
    have h1 := h.dig j hj
    have h2 : (w.alloc o).cell? ⟨B, j, none⟩ = some (.int .u8 ((48 + m / 10 ^ (Lib.nDigits m - 1 - j) % 10 : Nat) : Int)) := by
      exact (((Below.refl w.heap.size w).alloc (Nat.le_refl _) o).cell (block_lt_of_cell h1)).trans h1
    exact hg.cell h2 (by simpa using h.apart)
theorem Out.open {D B m n : Nat} {l : List UInt8} {w0 w : World} (h : Out D B m n l w0 w) : ∃ xs, xs = l.map byteV ∧ w.ownsRow w0.heap.size 5 1 (.slice (some ⟨D, 0, none⟩) n 24) n xs := ⟨_, rfl, h.own⟩
theorem Out.add {D B m n : Nat} {l : List UInt8} {w0 w w' : World} {o : Obj} {xs : List Value} {v : Value} (h : Out D B m n l w0 w) (hx : xs = l.map byteV) (c : UInt8) (hv : v = byteV c) (ho : w'.ownsRow w0.heap.size 5 1 (.slice (some ⟨D, 0, none⟩) (n + 1) 24) (n + 1) (xs ++ [v])) (hg : (w.alloc o).grownBy w' (some D)) : Out D B m (n + 1) (l ++ [c]) w0 w' := by
  subst hx; subst hv; exact h.push c ho hg
theorem one_cell (w : World) (T : TypeId) (v : Value) : ∀ (j : Nat) u, [v][j]? = some u → (w.alloc (.cells #[v] T)).cell? (Addr.add ⟨w.heap.size, 0, none⟩ j) = some u := by
  intro j u hj
  match j, hj with
  | 0, hj => simp at hj; subst hj; simp [Addr.add]
theorem u8_one (z : Int) : ∀ u ∈ [(.int .u8 z : Value)], u.oneCell' = true := by intro u hu; simp at hu; subst hu; rfl
theorem Out.same {D B m n n' : Nat} {l l' : List UInt8} {w0 w : World} (h : Out D B m n l w0 w) (hn : n = n') (hl : l = l') : Out D B m n' l' w0 w := by subst hn; subst hl; exact h
theorem take_push (l0 l : List UInt8) (i : Nat) (h : i < l.length) : l0 ++ l.take i ++ [l[i]] = l0 ++ l.take (i + 1) := by
  rw [List.append_assoc, ← List.take_append_getElem h]
theorem digs_at (v n i : Nat) (h : i < n) : (digs v n)[i]'(by rw [digs_length]; exact h) = UInt8.ofNat (48 + v / 10 ^ (n - 1 - i) % 10) := digs_get v n i _
theorem digit_byte (X : Nat) : (.int .u8 ((48 + X % 10 : Nat) : Int) : Value) = byteV (UInt8.ofNat (48 + X % 10)) := by
  unfold byteV
  have : (UInt8.ofNat (48 + X % 10)).toNat = 48 + X % 10 := by rw [UInt8.toNat_ofNat']; omega
  rw [this]
theorem byte_info : ∃ i, Tryd.prog.info? 5 = some i ∧ i.size = 1 := by
  have h : (Tryd.prog.info? 5).map (·.size) = some 1 := by kernel_rfl
  obtain ⟨i, h1, h2⟩ := Option.map_eq_some_iff.1 h
  exact ⟨i, h1, h2⟩

/-- Where fmtEFG looks: the digits before the point, behind it. -/
structure Plan (N k nz : Nat) (dp : Int) (P LZ OFF MID TZ M1 : Nat) : Prop where
  dpP : 0 < dp → dp = P
  dp0 : ¬ 0 < dp → P = 0
  m1 : 0 < dp → min (nz : Int) dp = M1
  m1le : M1 ≤ P ∧ M1 ≤ nz ∧ (M1 < P → M1 = nz)
  lz : min (k : Int) (max 0 (-dp)) = LZ
  off : dp + LZ = OFF
  mid : min ((k : Int) - LZ) (max 0 ((nz : Int) - OFF)) = MID
  tz : max 0 ((k : Int) - LZ - MID) = TZ
  sum : LZ + MID + TZ = k
  place : LZ + N = OFF + k
  few : OFF + MID ≤ nz ∨ MID = 0
  rest : 0 < TZ → nz ≤ OFF + MID
  lz0 : 0 < LZ → OFF = 0
  whole : P = N - k
theorem plan_of (N k nz : Nat) (hk : 0 < k) (hn : nz ≤ N) : ∃ P LZ OFF MID TZ M1, Plan N k nz ((N : Int) - k) P LZ OFF MID TZ M1 := by
  rcases Nat.lt_or_ge k N with h | h
  · rcases Nat.lt_or_ge nz (N - k) with h2 | h2
    · exact ⟨N - k, 0, N - k, 0, k, nz, ⟨by omega, by omega, by omega, by omega, by omega, by omega, by omega, by omega, by omega, by omega, by omega, by omega, by omega, by omega⟩⟩
    · exact ⟨N - k, 0, N - k, nz - (N - k), k - (nz - (N - k)), N - k, ⟨by omega, by omega, by omega, by omega, by omega, by omega, by omega, by omega, by omega, by omega, by omega, by omega, by omega, by omega⟩⟩
  · exact ⟨0, k - N, 0, nz, N - nz, 0, ⟨by omega, by omega, by omega, by omega, by omega, by omega, by omega, by omega, by omega, by omega, by omega, by omega, by omega, by omega⟩⟩

/-- The whole part's digits. -/
theorem in_digit {m k nz : Nat} {dp : Int} {P LZ OFF MID TZ M1 : Nat} (hp : Plan (Lib.nDigits m) k nz dp P LZ OFF MID TZ M1) (q : Nat) (h : q < P) : (digs (m / 10 ^ k) P)[q]'(by rw [digs_length]; exact h) = UInt8.ofNat (48 + m / 10 ^ (Lib.nDigits m - 1 - q) % 10) := by
  rw [digs_at _ _ _ h, Nat.div_div_eq_div_mul, ← Nat.pow_add]
  have := hp.whole
  have : k + (P - 1 - q) = Lib.nDigits m - 1 - q := by omega
  rw [this]
theorem in_zero {m k nz : Nat} {dp : Int} {P LZ OFF MID TZ M1 : Nat} (hp : Plan (Lib.nDigits m) k nz dp P LZ OFF MID TZ M1) (hz : Kept m nz) (q : Nat) (h : q < P) (h1 : M1 ≤ q) : (digs (m / 10 ^ k) P)[q]'(by rw [digs_length]; exact h) = 48 := by
  have h2 := hp.m1le
  have h3 := hp.whole
  rw [in_digit hp q h, hz.zero q (by omega) (by omega)]
  rfl
/-- The digits behind the point. -/
theorem out_digit {m k nz : Nat} {dp : Int} {P LZ OFF MID TZ M1 : Nat} (hp : Plan (Lib.nDigits m) k nz dp P LZ OFF MID TZ M1) (i : Nat) (h : LZ + i < k) : (digs m k)[LZ + i]'(by rw [digs_length]; exact h) = UInt8.ofNat (48 + m / 10 ^ (Lib.nDigits m - 1 - (OFF + i)) % 10) := by
  rw [digs_at _ _ _ h]
  have := hp.place
  have : k - 1 - (LZ + i) = Lib.nDigits m - 1 - (OFF + i) := by omega
  rw [this]
theorem out_lead {m k nz : Nat} {dp : Int} {P LZ OFF MID TZ M1 : Nat} (hp : Plan (Lib.nDigits m) k nz dp P LZ OFF MID TZ M1) (i : Nat) (h : i < LZ) (hk : i < k) : (digs m k)[i]'(by rw [digs_length]; exact hk) = 48 := by
  rw [digs_at _ _ _ hk]
  have h1 := hp.place
  have h2 := hp.lz0 (by omega)
  have h3 := Lib.lt_pow_nDigits m
  have h4 : 10 ^ Lib.nDigits m ≤ 10 ^ (k - 1 - i) := Nat.pow_le_pow_right (by omega) (by omega)
  rw [Nat.div_eq_of_lt (by omega)]
  rfl
theorem out_tail {m k nz : Nat} {dp : Int} {P LZ OFF MID TZ M1 : Nat} (hp : Plan (Lib.nDigits m) k nz dp P LZ OFF MID TZ M1) (hz : Kept m nz) (i : Nat) (h : i < TZ) (hk : LZ + (MID + i) < k) : (digs m k)[LZ + (MID + i)]'(by rw [digs_length]; exact hk) = 48 := by
  have h1 := hp.place
  have h2 := hp.rest (by omega)
  have h3 := hp.sum
  rw [out_digit hp (MID + i) hk, hz.zero (OFF + (MID + i)) (by omega) (by omega)]
  rfl

/-- The text: sign, whole part, point, k digits. -/
def fixText (neg : Bool) (m k : Nat) : List UInt8 :=
  (if neg then [45] else []) ++ (if k < Lib.nDigits m then digs (m / 10 ^ k) (Lib.nDigits m - k) else [48]) ++ [46] ++ digs m k
end Go.Proofs.YtodlhjdogcpffaaDoor
