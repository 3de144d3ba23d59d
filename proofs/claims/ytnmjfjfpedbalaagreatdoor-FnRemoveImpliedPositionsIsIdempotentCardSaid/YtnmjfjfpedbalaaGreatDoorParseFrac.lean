/- strconv.ParseFloat over a plain decimal of at most fifteen decimals whose digits make a number below 2^52: one exact division. -/
import Derived.Test.YtnmjfjfpedbalaaGreatDoorParseNum
import Derived.Laws.FloatArith
import Derived.ChangeArms
import Derived.MakeChecks
import Derived.Lib.LaidU8
namespace Go.Proofs.YtnmjfjfpedbalaaGreatDoor
open Go.RowKit Go.ChangeShapes

/-- The word of m/10^k. -/
def fdec (neg : Bool) (m k : Nat) : Nat := if k = 0 ∨ m = 0 then fint neg m else (floatBits .quo .f64 (fint neg m) (fint false (10 ^ k))).getD 0

theorem quo_some (s t : Bool) (m n : Nat) (hm : 0 < m) (hm2 : m < 2 ^ 53) (hn : 0 < n) (hn2 : n < 2 ^ 53) : ∃ r, floatBits .quo .f64 (fint s m) (fint t n) = some r := by
  have e0 : floatBits .quo .f64 (fint s m) (fint t n) = Ieee.double.div (Ieee.double.nearest s m 0) (Ieee.double.nearest t n 0) := rfl
  rw [e0]
  unfold Ieee.Format.div
  rw [Fl.read_int s m hm hm2, Fl.read_int t n hn hn2]
  have hp : 0 < n * 2 ^ (52 - n.log2) := Nat.mul_pos hn (Nat.two_pow_pos _)
  simp only [Ieee.Datum.quotient]
  rw [if_neg (by omega)]
  exact ⟨_, rfl⟩
theorem pow10_lt (k : Nat) (hk : k ≤ 15) : 10 ^ k < 2 ^ 53 := Nat.lt_of_le_of_lt (Nat.pow_le_pow_right (by omega) hk) (by decide)
theorem fdec_quo (neg : Bool) (m k : Nat) (h0 : 0 < m) (hm : m < 4503599627370496) (hk : 0 < k) (hk2 : k ≤ 15) : floatBits .quo .f64 (fint neg m) (fint false (10 ^ k)) = some (fdec neg m k) := by
  obtain ⟨r, hr⟩ := quo_some neg false m (10 ^ k) h0 (by omega) (Nat.pow_pos (by omega)) (pow10_lt k hk2)
  unfold fdec
  rw [if_neg (by omega), hr, Option.getD_some]
theorem fdec_lt (neg : Bool) (m k : Nat) : fdec neg m k < 18446744073709551616 := by
  unfold fdec
  split
  · exact Ieee.Format.nearest_lt Ieee.double _ _ _
  · cases h : floatBits .quo .f64 (fint neg m) (fint false (10 ^ k)) with
    | none => simp
    | some r => exact Ieee.Format.div_lt Ieee.double h

abbrev powAt : Nat → Value := fun i => .float .f64 (fint false (10 ^ i))
/-- The variables that atof64 reads, the powers of ten too. -/
structure PowVars (w : World) : Prop where
  flt : FltVars w
  pow : ∃ a c, w.cell? ⟨8, 0, none⟩ = some (.slice a 23 c) ∧ RowAt w a 23 powAt
theorem PowVars.below {w w' : World} (h : PowVars w) (hb : Below w.heap.size w w') : PowVars w' := by
  obtain ⟨h1, a, c, h2, h3⟩ := h
  exact ⟨h1.below hb, a, c, (hb.cell (block_lt_of_cell h2)).trans h2, h3.below hb⟩

/-- The text of a decimal: digits, one point at most, a minus at the front at most: it spells m/10^k. -/
structure Dec (s : ByteArray) (neg : Bool) (m k : Nat) : Prop where
  plain : Plain s neg.toNat
  minus : neg = true → ∀ h : 0 < s.size, s[0].toNat = 45
  mant : (rs s neg.toNat (s.size - neg.toNat)).mant = m
  exp : (rs s neg.toNat (s.size - neg.toNat)).exp = if m = 0 then 0 else -(k : Int)
  small : m < 4503599627370496
  few : k ≤ 15

theorem readFloat_dec (s : ByteArray) (neg : Bool) (m k : Nat) (w : World) (h : Dec s neg m k) :
    Calls Tryz.prog 53 #[.string s] w fun e w' => e = .returned (.tuple #[.int .u64 m, .int .i64 (if m = 0 then 0 else -(k : Int)), .bool neg, .bool false, .bool false, .int .i64 s.size, .bool true]) ∧ w = w' := by
  obtain ⟨h1, h2, h3, h4, _, _⟩ := h
  cases neg
  · have := readFloat_pos s w h1
    rw [show (rs s 0 (s.size - 0)).mant = m from h3, show (rs s 0 (s.size - 0)).exp = _ from h4] at this
    exact this
  · have := readFloat_neg s w h1 (h2 rfl)
    rw [show (rs s 1 (s.size - 1)).mant = m from h3, show (rs s 1 (s.size - 1)).exp = _ from h4] at this
    exact this

theorem special_dec (s : ByteArray) (neg : Bool) (m k : Nat) (w : World) (h : Dec s neg m k) :
    Calls Tryz.prog 52 #[.string s] w fun e w' => e = .returned (.tuple #[.float .f64 0, .int .i64 0, .bool false]) ∧ w = w' := by
  obtain ⟨h1, h2, _, _, _, _⟩ := h
  cases neg
  · exact special_pos s w h1
  · exact special_neg s w h1 (h2 rfl)

set_option maxRecDepth 100000 in
set_option maxHeartbeats 1000000 in
theorem exact_dec (m k : Nat) (neg : Bool) (w : World) (hm : m < 4503599627370496) (h0 : 0 < m) (hk : 0 < k) (hk2 : k ≤ 15) (hv : PowVars w) :
    Calls Tryz.prog 63 #[.int .u64 m, .int .i64 (-(k : Int)), .bool neg] w fun e w' => e = .returned (.tuple #[.float .f64 (fdec neg m k), .bool true]) ∧ w = w' := by
  have hv1 := hv.flt.1
  obtain ⟨a, c, hp1, hp2⟩ := hv.pow
  obtain ⟨b, o, rfl, hrow⟩ := hp2 (by omega)
  have hcell : w.cell? ⟨b, o + k, none⟩ = some (.float .f64 (fint false (10 ^ k))) := hrow k (by omega)
  have hq := fdec_quo neg m k h0 hm hk hk2
  have hqu := fun (t : TypeId) (wx : World) => run_float_arith (P := Tryz.prog) wx .quo t .f64 _ _ _ hq
  clear hp2 hrow hv hq
  have hf : floatOfInt FloatKind.f64 (m : Int) = fint false m := by
    unfold floatOfInt FloatKind.nearest FloatKind.encode
    have : decide ((m : Int) < 0) = false := by simp
    rw [this]; rfl
  have hz : (((m : Int) / 4503599627370496) != 0) = false := by rw [bne_eq_false_iff_eq]; omega
  have hng : Op.unary UnOp.neg (.float .f64 (fint false m)) = (pure (.float .f64 (fint true m)) : Sem Value) := by
    have e : Op.unary UnOp.neg (.float .f64 (fint false m)) = (pure (.float .f64 (Op.negFloat .f64 (fint false m))) : Sem Value) := rfl
    rw [e, neg_word m h0 (by omega)]
  have k1 : ((-(k : Int)) == 0) = false := by rw [beq_eq_false_iff_ne]; omega
  have k2 : ¬ 0 < -(k : Int) := by omega
  have k3 : -(k : Int) < 0 := by omega
  have k4 : -22 ≤ -(k : Int) := by omega
  have k5 : IntKind.i64.wrap (-(-(k : Int))) = k := by rw [IntKind.wrap_i64]; omega
  have k5b : wrap64 (-(-(k : Int))) = k := by unfold wrap64; omega
  have k6 : k < 23 := by omega
  generalize fint false (10 ^ k) = pk at *
  generalize fdec neg m k = r at *
  go_enter Tryz.func63, Tryz.ntmps63
  cases neg
  all_goals
    go_wp2
    go_ret2
    exact ⟨rfl, rfl⟩

set_option maxRecDepth 100000 in
set_option maxHeartbeats 2000000 in
theorem atof64_dec (s : ByteArray) (neg : Bool) (m k : Nat) (w : World) (h : Dec s neg m k) (hv : PowVars w) :
    Calls Tryz.prog 48 #[.string s] w fun e w' => e = .returned (.tuple #[.float .f64 (fdec neg m k), .int .i64 s.size, .nilIface]) ∧ w = w' := by
  rcases Nat.eq_zero_or_pos k with rfl | hk0
  · have : fdec neg m 0 = fint neg m := by unfold fdec; rw [if_pos (Or.inl rfl)]
    rw [this]
    obtain ⟨h1, h2, h3, h4, h5, _⟩ := h
    exact atof64_whole s neg m w ⟨h1, h2, h3, by rw [h4]; split <;> rfl, h5⟩ hv.flt
  rcases Nat.eq_zero_or_pos m with rfl | hm1
  · have : fdec neg 0 k = fint neg 0 := by unfold fdec; rw [if_pos (Or.inr rfl)]
    rw [this]
    obtain ⟨h1, h2, h3, h4, h5, _⟩ := h
    exact atof64_whole s neg 0 w ⟨h1, h2, h3, by rw [h4, if_pos rfl], h5⟩ hv.flt
  have hv2 := hv.flt.2
  have hsm := h.small
  have hfew := h.few
  have HV := Lib.hid hv
  have HS := Lib.hid (special_dec s neg m k w h)
  have HR := readFloat_dec s neg m k w h
  rw [if_neg (by omega)] at HR
  have HR := Lib.hid HR
  clear h hv
  have hm0 : ((m : Int) == 0) = false := by rw [beq_eq_false_iff_ne]; omega
  have k7 : ¬ 310 < -(k : Int) := by omega
  have k8 : ¬ -(k : Int) < -330 := by omega
  have hfb := run_frombits
  have hb0 : bits BinOp.or IntKind.u64 0 0 = 0 := by decide +kernel
  have hb1 : bits BinOp.or IntKind.u64 9223372036854775808 0 = 9223372036854775808 := by decide +kernel
  have HE := Lib.hid (exact_dec m k neg w hsm hm1 hk0 hfew HV.out)
  generalize fdec neg m k = r at HE ⊢
  go_enter Tryz.func48, Tryz.ntmps48
  go_wp2_with fail
  refine HS.out.mono ?_
  rintro e w' ⟨rfl, rfl⟩
  go_wp2_with fail
  refine HR.out.mono ?_
  rintro e w' ⟨rfl, rfl⟩
  cases neg
  all_goals
    go_wp2_with (first | (go_at_call 61; refine (bool2_any _ _).mono ?_; rintro e w' ⟨rfl, rfl⟩) | (go_at_call 63; refine HE.out.mono ?_; rintro e w' ⟨rfl, rfl⟩))
    go_ret3
    exact ⟨rfl, rfl⟩

set_option maxRecDepth 100000 in
set_option maxHeartbeats 2000000 in
theorem ParseFloat_dec (s : ByteArray) (neg : Bool) (m k : Nat) (w : World) (h : Dec s neg m k) (hv : PowVars w) :
    Calls Tryz.prog 32 #[.string s, .int .i64 64] w fun e w' => e = .returned (.tuple #[.float .f64 (fdec neg m k), .nilIface]) ∧ w = w' := by
  have HA := Lib.hid (atof64_dec s neg m k w h hv)
  clear h hv
  go_enter Tryz.func32, Tryz.ntmps32
  go_wp2_with (first | (go_at_call 48; refine HA.out.mono ?_; rintro e w' ⟨rfl, rfl⟩) | (go_at_call 39; go_in) | (go_at_call 42; go_in))
  go_ret2
  exact ⟨rfl, rfl⟩

/-! Off the listed variables. -/
section
variable {H : Type} {enc : TypeId × Value → H} {P : Program} {w : World} {base : Nat} {spare : Nat → Bool} {held : Bool} {fuel : Nat} {t : TypeId} {cs : List Value} {x : DataW H × List MemPlace}
theorem trod_float {k : FloatKind} (ht : P.underlying t = some (.float k)) (h : DataW.trod enc P w base spare held fuel t cs = some x) : ∃ n, cs = [.float k n] ∧ x.1 = .lit (.float k n) := by
  cases fuel with
  | zero => simp [DataW.trod] at h
  | succ n =>
    unfold DataW.trod at h
    rw [ht] at h
    split at h <;> simp_all
    rw [← h.2]
theorem floats_of_trod {e : TypeId} {F : Nat → Nat} {N : Nat} {rest : List (DataW H)} {p : List MemPlace} (ht : P.underlying t = some (.slice e)) (he : P.underlying e = some (.float .f64)) (hc : P.cellsOf e = 1)
    (h : DataW.trod enc P w base spare held fuel t cs = some (.slice ((List.range N).map fun i => .lit (.float .f64 (F i))) rest, p)) :
    ∃ a c, cs = [.slice a N c] ∧ RowAt w a N (fun i => .float .f64 (F i)) := by
  rcases DataW.trod_slice ht h with ⟨_, h0⟩ | ⟨a, len, cap, elems, rest, n, _, rfl, hx, _, _, _, hlen, hel, _, _⟩
  · cases h0
  have hx1 := congrArg Prod.fst hx
  simp only [DataW.slice.injEq] at hx1
  obtain ⟨hx1, _⟩ := hx1
  have hN : len = N := by
    have := congrArg List.length hx1
    simp at this
    omega
  subst hN
  refine ⟨some a, cap, rfl, row_of_cells (m := len) (Nat.le_refl _) fun i hi => ?_⟩
  have h1 := hel i hi
  have hi2 : i < elems.length := by omega
  rw [hc, Nat.mul_one, List.getElem?_eq_getElem hi2, Option.bind_eq_some_iff] at h1
  obtain ⟨cs', hcs, hy⟩ := h1
  obtain ⟨m, rfl, hm⟩ := trod_float he hy
  have h2 := congrArg (fun l => l[i]?) hx1
  simp only [List.getElem?_map, List.getElem?_range hi, Option.map_some, List.getElem?_eq_getElem hi2] at h2
  have h3 := Option.some.inj h2
  rw [hm] at h3
  simp only [DataW.lit.injEq, Lit.float.injEq, true_and] at h3
  rw [cell_of_cells?_one hcs, ← h3]
end

theorem powVars_of_laid {laid : List (String × DataW Unit)} {W : World} (hf : FltVars W) (h : laidMetH Tryz.prog laid W) (hp : (laid.all fun x => x.2.handleName?.isNone) = true) (k : Nat)
    (hm : laid[k]? = some ("internal/strconv.float64pow10", .slice ((List.range 23).map fun i => .lit (.float .f64 (fint false (10 ^ i)))) [])) : PowVars W := by
  rw [MakeChecks.laidMetH_plain _ _ _ hp] at h
  refine ⟨hf, ?_⟩
  obtain ⟨g', t', cs, fuel, p, h1, h2, h3, h4⟩ := Lib.laidMet.reads h (List.mem_of_getElem? hm)
  have hg : Tryz.prog.globalNamed "internal/strconv.float64pow10" = some 8 := by kernel_rfl
  have ht : (Tryz.prog.globals[8]?).map (·.type) = some 144 := by kernel_rfl
  obtain rfl := Option.some.inj (hg.symm.trans h1)
  obtain rfl := Option.some.inj (ht.symm.trans h2)
  obtain ⟨a, c, hcs, hrow⟩ := floats_of_trod (F := fun i => fint false (10 ^ i)) Tryz.underlying144 Tryz.underlying53 (by kernel_rfl) h4
  refine ⟨a, c, ?_, hrow⟩
  rw [World.var?_cell hg h3 0]
  obtain ⟨l⟩ := cs
  simp only at hcs
  subst hcs
  rfl
end Go.Proofs.YtnmjfjfpedbalaaGreatDoor
