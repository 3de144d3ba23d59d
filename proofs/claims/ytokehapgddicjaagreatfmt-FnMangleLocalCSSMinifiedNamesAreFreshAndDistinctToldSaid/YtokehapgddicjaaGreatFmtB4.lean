/- The CSS minifier's letters, shuffled by no frequencies: as they were. -/
import Derived.Test.YtokehapgddicjaaGreatFmtB2
import Derived.Test.YtokehapgddicjaaGreatFmtB3
namespace Go.Proofs.YtokehapgddicjaaGreatFmt
open Go.RowKit
set_option linter.unusedVariables false
set_option linter.unusedSimpArgs false
def headL : List UInt8 := (List.range 26).map (fun i => UInt8.ofNat (97 + i)) ++ (List.range 26).map (fun i => UInt8.ofNat (65 + i)) ++ [95]
def tailL : List UInt8 := (List.range 26).map (fun i => UInt8.ofNat (97 + i)) ++ (List.range 26).map (fun i => UInt8.ofNat (65 + i)) ++ (List.range 10).map (fun i => UInt8.ofNat (48 + i)) ++ [95]
def cssHead : ByteArray := ⟨headL.toArray⟩
def cssTail : ByteArray := ⟨tailL.toArray⟩
theorem tail_size : cssTail.size = 63 := by kernel_rfl
theorem head_size : cssHead.size = 53 := by kernel_rfl
set_option maxRecDepth 100000 in
set_option maxHeartbeats 1000000 in
theorem default_any (w : World) : Calls Tryz.prog 29 #[] w (fun e w' => e = .returned (.agg #[.string cssHead, .string cssTail]) ∧ Below w.heap.size w w') := by
  go_enter Tryz.func29, Tryz.ntmps29
  go_wp2_with fail
  exact bodyPost_ret (results_cell_row rfl _ _ w.heap.size 201 _ (0, 0) _ rfl (heap_alloc_new w _) Tryz.underlying201 rfl (by kernel_rfl)) rfl ⟨by kernel_rfl, (Below.refl _ _).alloc (Nat.le_refl _) _⟩
theorem cc_info : (Tryz.prog.info? 229).map (fun i => (i.zero, i.size, i.bytes)) = some (some (.agg #[.string ByteArray.empty, .int .i32 0, .int .u8 0]), 3, 24) := by kernel_rfl
def freq0 : Array Value := Array.replicate 64 (.int .i32 0)
theorem freq_at (i : Nat) (h : i < 64) : freq0[i]? = some (.int .i32 0) := by simp [freq0, h]
def oneL (t : ByteArray) (i : Nat) : ByteArray := t.extract i (i + 1)
/-- The array behind the first k rounds. -/
def lettersTo (t : ByteArray) (k : Nat) : List (ByteArray × Nat) := (List.range 64).map (fun i => if i < k then (oneL t i, i) else (ByteArray.empty, 0))
theorem letters_len (t : ByteArray) (k : Nat) : (lettersTo t k).length = 64 := by simp [lettersTo]
theorem letters_zero (t : ByteArray) : (madeCells #[.string ByteArray.empty, .int .i32 0, .int .u8 0] (64 * 3)).toList = flat encC (lettersTo t 0) := by kernel_rfl
theorem letters_set (t : ByteArray) (k : Nat) (hk : k < 64) : (lettersTo t k).set k (oneL t k, k) = lettersTo t (k + 1) := by
  apply List.ext_getElem?
  intro i
  simp only [lettersTo, List.getElem?_set, List.getElem?_map, List.length_map, List.length_range]
  by_cases h : k = i
  · subst h
    simp [hk]
  · rw [if_neg h]
    by_cases hi : i < 64
    · simp only [List.getElem?_range hi, Option.map_some]
      by_cases h2 : i < k
      · rw [if_pos h2, if_pos (by omega)]
      · rw [if_neg h2, if_neg (by omega)]
    · simp [hi]
theorem letters_at (t : ByteArray) (k : Nat) (hk : k < 64) : (lettersTo t k)[k]'(by rw [letters_len]; exact hk) = (ByteArray.empty, 0) := by simp [lettersTo]
/-- The letters joined: all of them; those that are no digits. -/
def joinT (l : List (ByteArray × Nat)) : ByteArray := l.foldl (fun a x => a ++ x.1) ByteArray.empty
def noDigit (s : ByteArray) : Bool := Op.bytesLess s.toList [48] || (!Op.bytesLess s.toList [57] && !(s.toList == [57]))
def joinH (l : List (ByteArray × Nat)) : ByteArray := l.foldl (fun a x => if noDigit x.1 then a ++ x.1 else a) ByteArray.empty
theorem joinT_snoc (l : List (ByteArray × Nat)) (x : ByteArray × Nat) : joinT (l ++ [x]) = joinT l ++ x.1 := by simp [joinT]
theorem joinH_snoc (l : List (ByteArray × Nat)) (x : ByteArray × Nat) : joinH (l ++ [x]) = if noDigit x.1 then joinH l ++ x.1 else joinH l := by simp [joinH]
theorem join_size (l : List (ByteArray × Nat)) (h : ∀ x ∈ l, x.1.size ≤ 1) : (joinT l).size ≤ l.length ∧ (joinH l).size ≤ l.length := by
  have h1 : ∀ (l : List (ByteArray × Nat)) (a : ByteArray), (∀ x ∈ l, x.1.size ≤ 1) → (l.foldl (fun a x => a ++ x.1) a).size ≤ a.size + l.length := by
    intro l
    induction l with
    | nil => intro a _; exact Nat.le_refl _
    | cons x r ih =>
      intro a hx
      have e1 := ih (a ++ x.1) (fun y hy => hx y (List.mem_cons_of_mem _ hy))
      have e2 := hx x List.mem_cons_self
      rw [ByteArray.size_append] at e1
      rw [List.foldl_cons, List.length_cons]
      omega
  have h2 : ∀ (l : List (ByteArray × Nat)) (a : ByteArray), (∀ x ∈ l, x.1.size ≤ 1) → (l.foldl (fun a x => if noDigit x.1 then a ++ x.1 else a) a).size ≤ a.size + l.length := by
    intro l
    induction l with
    | nil => intro a _; exact Nat.le_refl _
    | cons x r ih =>
      intro a hx
      have e2 := hx x List.mem_cons_self
      rw [List.foldl_cons, List.length_cons]
      by_cases hd : noDigit x.1 = true
      · have e1 := ih (a ++ x.1) (fun y hy => hx y (List.mem_cons_of_mem _ hy))
        rw [ByteArray.size_append] at e1
        rw [if_pos hd]
        omega
      · have e1 := ih a (fun y hy => hx y (List.mem_cons_of_mem _ hy))
        rw [if_neg hd]
        omega
  have e1 := h1 l ByteArray.empty h
  have e2 := h2 l ByteArray.empty h
  rw [show ByteArray.empty.size = 0 from rfl, Nat.zero_add] at e1 e2
  exact ⟨e1, e2⟩
theorem take_snoc {l : List (ByteArray × Nat)} {k : Nat} {p : ByteArray × Nat} (h : l[k]? = some p) : l.take (k + 1) = l.take k ++ [p] := by
  rw [List.take_add_one, h]
  rfl
theorem set_two {w : World} {b : Nat} {x y x' y' : Value} {T : TypeId} (o : Obj) (h : w.heap[b]? = some (.cells #[x, y] T (0, 0))) : (((w.setCell ⟨b, 0, none⟩ x').setCell ⟨b, 1, none⟩ y').alloc o).heap[b]? = some (.cells #[x', y'] T (0, 0)) := by
  have hl : b < w.heap.size := (Array.getElem?_eq_some_iff.1 h).1
  have hl2 : b < ((w.setCell ⟨b, 0, none⟩ x').setCell ⟨b, 1, none⟩ y').heap.size := by simpa [World.setCell] using hl
  rw [Below.heap_alloc _ _ _ hl2]
  simp [World.setCell, Array.getElem?_modify, h]
theorem set_one {w : World} {b : Nat} {x y y' : Value} {T : TypeId} (o : Obj) (h : w.heap[b]? = some (.cells #[x, y] T (0, 0))) : ((w.setCell ⟨b, 1, none⟩ y').alloc o).heap[b]? = some (.cells #[x, y'] T (0, 0)) := by
  have hl : b < w.heap.size := (Array.getElem?_eq_some_iff.1 h).1
  have hl2 : b < (w.setCell ⟨b, 1, none⟩ y').heap.size := by simpa [World.setCell] using hl
  rw [Below.heap_alloc _ _ _ hl2]
  simp [World.setCell, Array.getElem?_modify, h]
theorem set_two' {w : World} {b : Nat} {x y x' y' : Value} {T : TypeId} (h : w.heap[b]? = some (.cells #[x, y] T (0, 0))) : ((w.setCell ⟨b, 0, none⟩ x').setCell ⟨b, 1, none⟩ y').heap[b]? = some (.cells #[x', y'] T (0, 0)) := by
  simp [World.setCell, Array.getElem?_modify, h]
def someL (x : ByteArray × Nat) : Bool := !(x.1.size == 0)
theorem empty_of {s : ByteArray} (h : s.size = 0) : s = ByteArray.empty := by
  cases s with
  | mk d =>
    have h' : d.size = 0 := h
    rw [Array.size_eq_zero_iff.1 h']
    rfl
theorem app_empty (a : ByteArray) : a ++ ByteArray.empty = a := by simp
theorem joinT_some (l : List (ByteArray × Nat)) : joinT l = joinT (l.filter someL) := by
  unfold joinT
  generalize ByteArray.empty = a
  induction l generalizing a with
  | nil => rfl
  | cons x r ih =>
    by_cases h : someL x = true
    · rw [List.filter_cons_of_pos h, List.foldl_cons, List.foldl_cons, ih]
    · rw [List.filter_cons_of_neg h, List.foldl_cons, ih]
      have h0 : x.1.size = 0 := by simpa [someL] using h
      rw [empty_of h0, app_empty]
theorem joinH_some (l : List (ByteArray × Nat)) : joinH l = joinH (l.filter someL) := by
  unfold joinH
  generalize ByteArray.empty = a
  induction l generalizing a with
  | nil => rfl
  | cons x r ih =>
    by_cases h : someL x = true
    · rw [List.filter_cons_of_pos h, List.foldl_cons, List.foldl_cons, ih]
    · rw [List.filter_cons_of_neg h, List.foldl_cons, ih]
      have h0 : x.1.size = 0 := by simpa [someL] using h
      rw [empty_of h0, app_empty]
      split <;> rfl
def theL : List (ByteArray × Nat) := (List.range 63).map (fun i => (oneL cssTail i, i))
theorem letters_some : (lettersTo cssTail 63).filter someL = theL := by kernel_rfl
theorem theL_T : joinT theL = cssTail := by kernel_rfl
theorem theL_H : joinH theL = cssHead := by kernel_rfl
theorem theL_mem {x : ByteArray × Nat} (h : x ∈ theL) : x = (oneL cssTail x.2, x.2) := by
  obtain ⟨i, _, rfl⟩ := List.mem_map.1 h
  rfl
theorem joined (d : List (ByteArray × Nat)) (hp : d.Perm (lettersTo cssTail 63)) (hw : d.Pairwise (fun x y => ltC y x = false)) : joinH d = cssHead ∧ joinT d = cssTail := by
  have h1 : (d.filter someL).Perm theL := letters_some ▸ hp.filter someL
  have h2 : (d.filter someL).Pairwise (fun x y => ltC y x = false) := hw.filter someL
  have h3 : theL.Pairwise (fun x y => ltC y x = false) := by
    unfold theL
    rw [List.pairwise_map]
    refine List.pairwise_lt_range.imp fun {a b} h => ?_
    simp [ltC]
    omega
  have h4 : d.filter someL = theL := List.Perm.eq_of_pairwise (fun a b ha hb hab hba => by
    have e1 := theL_mem (h1.mem_iff.1 ha)
    have e2 := theL_mem hb
    simp only [ltC, decide_eq_false_iff_not] at hab hba
    have : a.2 = b.2 := by omega
    rw [e1, e2, this]) h2 h3 h1
  rw [joinT_some, joinH_some, h4]
  exact ⟨theL_H, theL_T⟩
theorem letter_small (t : ByteArray) : ∀ x ∈ lettersTo t 63, x.1.size ≤ 1 := by
  intro x hx
  obtain ⟨i, _, rfl⟩ := List.mem_map.1 hx
  by_cases h : i < 63
  · simp only [h, if_true]
    show (t.extract i (i + 1)).size ≤ 1
    rw [ByteArray.size_extract]
    omega
  · simp only [h, if_false]
    exact Nat.zero_le _
theorem u8_wrap (k : Nat) (h : k < 256) : IntKind.u8.wrap (k : Int) = (k : Int) := by
  simp [IntKind.wrap, IntKind.bits, IntKind.signed]; omega
set_option maxRecDepth 100000 in
set_option maxHeartbeats 1000000 in
theorem shuffle_any (w : World) : Calls Tryz.prog 30 #[.agg #[.string cssHead, .string cssTail], .agg freq0] w (fun e w' => e = .returned (.agg #[.string cssHead, .string cssTail]) ∧ Below w.heap.size w w') := by
  obtain ⟨i0, hi, hz0, hz1, hz2⟩ := info_parts cc_info
  have ht : (cssTail.size : Int) = 63 := by rw [tail_size]; rfl
  obtain ⟨N, hN⟩ : ∃ N : Nat, N = 64 := ⟨_, rfl⟩
  have hN1 : (N : Int) = 64 := by omega
  have HF := Lib.hid freq_at
  have HL := Lib.hid (letters_zero cssTail)
  have HQ := Lib.hid joined
  generalize cssTail = t at *
  generalize cssHead = hd at *
  generalize freq0 = fq at *
  have HN := Lib.hid hN
  clear hN
  go_enter Tryz.func30, Tryz.ntmps30
  go_wp2_with (refine wpList_make_full _ rfl _ _ 227 rfl (w.heap.size + 3) 229 i0 _ 3 Tryz.underlying227 hi hz0 hz1 .i64 .i64 _ _ N rfl rfl hN1.symm hN1.symm ?c1 ?c2 ?c3 ?c4)
  case c1 => rw [hz2, HN.out]; decide
  case c2 => rw [HN.out]; unfold maxLen; decide
  case c3 => simp
  case c4 =>
    intro w3 hown3 hg3
    have e3 : w.heap.size + 3 ≤ w3.heap.size := by have := hg3.size; simp at this; omega
    rw [show N * 3 = 64 * 3 by rw [HN.out], HL.out] at hown3
    have k0 : w3.heap[w.heap.size]? = some (.cells #[.string hd, .string t] 201 (0, 0)) := by
      rw [hg3.block _ (by simp <;> omega) (by simp), Below.heap_alloc _ _ _ (by simp <;> omega), Below.heap_alloc _ _ _ (by simp <;> omega)]
      exact heap_alloc_new w _
    have k1 : w3.heap[w.heap.size + 1]? = some (.cells fq 188 (0, 0)) := by
      rw [hg3.block _ (by simp <;> omega) (by simp), Below.heap_alloc _ _ _ (by simp <;> omega)]
      have := heap_alloc_new (w.alloc (.cells #[.string hd, .string t] 201)) (.cells fq 188)
      simpa using this
    have k2 : w3.heap[w.heap.size + 1 + 1]? = some (.cells #[.string { data := #[] }, .string { data := #[] }] 201 (0, 0)) := by
      rw [hg3.block _ (by simp) (by simp)]
      have := heap_alloc_new ((w.alloc (.cells #[.string hd, .string t] 201)).alloc (.cells fq 188)) (.cells #[.string { data := #[] }, .string { data := #[] }] 201)
      simpa using this
    have ct : w3.cell? ⟨w.heap.size, 1, none⟩ = some (.string t) := (Lib.cell_of_heap k0 1).trans rfl
    have cf : ∀ i, i < 64 → w3.cell? ⟨w.heap.size + 1, i, none⟩ = some (.int .i32 0) := fun i hi => (Lib.cell_of_heap k1 i).trans (HF.out i hi)
    have hb3 : Below w.heap.size w w3 := ((((Below.refl _ _).alloc (Nat.le_refl _) _).alloc (by simp) _).alloc (by simp; omega) _).grown hg3 (by simp; omega) (fun j h => by cases h)
    have H3 := Lib.hid (And.intro hown3 (And.intro e3 (And.intro ct cf)))
    have K2 := Lib.hid (And.intro k2 hb3)
    clear hown3 hg3 e3 ct cf k0 k1 k2 hb3
    generalize hgB : w.heap.size + 1 + 1 + 1 = g at *
    have HG := Lib.hid hgB
    clear hgB
    go_wp2_with fail
    go_loopw [6] (fun iv wr => ∃ k : Nat, k ≤ 63 ∧ iv = .int .i64 k ∧ Hid (wr.ownsRow g 229 3 (.slice (some ⟨g, 0, none⟩) N N) N (flat encC (lettersTo t k)) ∧ Below g w3 wr)) (fun iv _ => 63 - (intOf iv).toNat)
    case atStart => exact ⟨0, Nat.zero_le _, rfl, H3.out.1, Below.refl _ _⟩
    case round =>
      obtain ⟨k, hk, rfl, HW⟩ := hrel
      have ct := (HW.out.2.cell (p := ⟨w.heap.size, 1, none⟩) (show w.heap.size < g by have := HG.out; omega)).trans H3.out.2.2.1
      by_cases hlt : k < 63
      · have hkN : k < N := by rw [HN.out]; omega
        have hlen : (lettersTo t k).length = N := by rw [letters_len, HN.out]
        have hrow := fun (r : Nat) (hr : r < 3) => row_cell (r := r) (d := (lettersTo t k).toArray) encC_len (by simpa using hlen) (by simpa using HW.out.1) hkN hr
        have hel : (lettersTo t k).toArray[k]! = (ByteArray.empty, 0) := by
          rw [getElem!_pos _ k (by simp [letters_len]; omega)]
          simp [letters_at t k (by omega)]
        have a0 : wr.cell? ⟨g, k * 3, none⟩ = some (.string ByteArray.empty) := by
          have := hrow 0 (by decide); rw [hel] at this; exact this
        have a1 : wr.cell? ⟨g, k * 3 + 1, none⟩ = some (.int .i32 0) := by
          have := hrow 1 (by decide); rw [hel] at this; exact this
        have a2 : wr.cell? ⟨g, k * 3 + 2, none⟩ = some (.int .u8 0) := by
          have := hrow 2 (by decide); rw [hel] at this; exact this
        clear hrow hel
        have f0 := HW.out.1.frozenAt (k * 3)
        have f1 := HW.out.1.frozenAt (k * 3 + 1)
        have f2 := HW.out.1.frozenAt (k * 3 + 2)
        obtain ⟨u1, d1⟩ := cell_set_some (w := wr) (p := ⟨g, k * 3, none⟩) (x := .string (oneL t k)) (q := ⟨g, k * 3 + 1, none⟩) a1
        obtain ⟨u2', d2'⟩ := cell_set_some (w := wr) (p := ⟨g, k * 3, none⟩) (x := .string (oneL t k)) (q := ⟨g, k * 3 + 2, none⟩) a2
        obtain ⟨u2, d2⟩ := cell_set_some (p := ⟨g, k * 3 + 1, none⟩) (x := .int .i32 0) d2'
        clear d2'
        have cf := (HW.out.2.cell (p := ⟨w.heap.size + 1, k, none⟩) (show w.heap.size + 1 < g by have := HG.out; omega)).trans (H3.out.2.2.2 k (by omega))
        have hwr := u8_wrap k (by omega)
        have b0 : (0 : Int) ≤ (k : Int) := by omega
        have b1 : (k : Int) < 64 := by omega
        have b2 : (k : Int) + 1 ≤ t.size := by omega
        have b3 : (k : Int) ≤ (k : Int) + 1 := by omega
        have b4 : (k : Int) < 63 := by omega
        unfold oneL at d1 d2
        obtain ⟨ho, _⟩ := owns_setCells (encC (oneL t k, k)) (k * 3) wr _ HW.out.1
        rw [flat_set encC_len _ _ _ (by rw [letters_len]; omega), letters_set t k (by omega)] at ho
        have HO := Lib.hid (And.intro ho (HW.out.2.grown (owns_setCells (encC (oneL t k, k)) (k * 3) wr _ HW.out.1).2 (by have := HW.out.2.size; have := H3.out.2.1; omega) (fun j h => by cases h; exact Nat.le_refl _)))
        clear ho
        go_wp2_with fail
        go_region
        all_goals
          go_wp2_with fail
          go_roundw
          case rel => exact ⟨k + 1, by omega, by go_num, HO.out.1, HO.out.2.drew⟩
          case measure => simp [intOf]; omega
      · have hk63 : k = 63 := by omega
        have hkn : ¬ (k : Int) < 63 := by omega
        have HK63 := Lib.hid hk63
        have hW2 := HW.out
        rw [hk63] at hW2
        have HW := Lib.hid hW2
        clear hk63 hW2
        have hd63 : (lettersTo t 63).length = N := by rw [letters_len, HN.out]
        go_wp2_with (go_at_call 28; refine (sortC_any g N N g 229 (lettersTo t 63) _ (by rw [HN.out]; decide) hd63 HW.out.1).mono ?_; rintro e w5 ⟨rfl, d', hp, hpw, ho5, hg5⟩; have hd5 : d'.length = N := hp.length_eq.trans hd63; have H5 := Lib.hid (show w5.ownsRow g 229 3 (.slice (some ⟨g, 0, none⟩) N N) N (flat encC d') ∧ Below g w3 w5 ∧ d'.Perm (lettersTo t 63) ∧ d'.Pairwise (fun x y => ltC y x = false) from ⟨ho5, HW.out.2.grown hg5 (by have := HW.out.2.size; have := H3.out.2.1; omega) (fun j h => by cases h; exact Nat.le_refl _), hp, hpw⟩); have HD := Lib.hid hd5; clear hp hpw ho5 hg5 hd5 hd63)
        go_loopw [39] (fun iv wr => ∃ k : Nat, k ≤ N ∧ iv = .int .i64 k ∧ wr.heap[w5.heap.size]? = some (.cells #[.string (joinH (d'.take k)), .string (joinT (d'.take k))] 201 (0, 0)) ∧ Hid (Below w5.heap.size w5 wr)) (fun iv _ => N - (intOf iv).toNat)
        case atStart => exact ⟨0, Nat.zero_le _, rfl, heap_alloc_new w5 _, (Below.refl _ _).alloc (Nat.le_refl _) _⟩
        case round =>
          clear HW HK63 hkn ct
          obtain ⟨k, hk, rfl, hb, HB⟩ := hrel
          by_cases hlt : k < N
          · have hkd : k < d'.length := by rw [HD.out]; exact hlt
            have hrow := fun (r : Nat) (hr : r < 3) => row_cell (r := r) (d := d'.toArray) encC_len (by simpa using HD.out) (by simpa using H5.out.1) hlt hr
            obtain ⟨⟨s, x⟩, hx⟩ : ∃ p, p = d'[k] := ⟨_, rfl⟩
            have hel : d'.toArray[k]! = (s, x) := by
              rw [getElem!_pos _ k (by simpa using hkd)]
              simp [← hx]
            have hg5 := owns_lt H5.out.1
            have a0 : wr.cell? ⟨g, k * 3, none⟩ = some (.string s) := by
              have := hrow 0 (by decide); rw [hel] at this; exact (HB.out.cell (p := ⟨g, k * 3, none⟩) hg5).trans this
            have a1 : wr.cell? ⟨g, k * 3 + 1, none⟩ = some (.int .i32 0) := by
              have := hrow 1 (by decide); rw [hel] at this; exact (HB.out.cell (p := ⟨g, k * 3 + 1, none⟩) hg5).trans this
            have a2 : wr.cell? ⟨g, k * 3 + 2, none⟩ = some (.int .u8 (x : Int)) := by
              have := hrow 2 (by decide); rw [hel] at this; exact (HB.out.cell (p := ⟨g, k * 3 + 2, none⟩) hg5).trans this
            have HX := Lib.hid (show d'[k]? = some (s, x) from by rw [List.getElem?_eq_getElem hkd, hx])
            clear hrow hel hx hkd
            have c0 := cell_of_row _ _ 0 _ _ _ hb
            have c1 := cell_of_row _ _ 1 _ _ _ hb
            simp only [List.getElem?_toArray, List.getElem?_cons_zero, List.getElem?_cons_succ] at c0 c1
            have f0 := Lib.frozen_of_heap hb 0
            have f1 := Lib.frozen_of_heap hb 1
            have lb := block_lt_of_cell c0
            have hlt2 : (k : Int) < 64 := by omega
            have hsm : ∀ y ∈ d', y.1.size ≤ 1 := fun y hy => letter_small t y (H5.out.2.2.1.mem_iff.1 hy)
            have hs1 : s.size ≤ 1 := hsm (s, x) (List.mem_of_getElem? HX.out)
            have hjs := join_size (d'.take k) (fun y hy => hsm y (List.mem_of_mem_take hy))
            rw [List.length_take] at hjs
            have hj1 : (joinT (d'.take k)).size ≤ k := Nat.le_trans hjs.1 (Nat.min_le_left _ _)
            have hj2 : (joinH (d'.take k)).size ≤ k := Nat.le_trans hjs.2 (Nat.min_le_left _ _)
            clear hjs hsm
            have HT := Lib.hid (show joinT (d'.take (k + 1)) = joinT (d'.take k) ++ s ∧ joinH (d'.take (k + 1)) = if noDigit s then joinH (d'.take k) ++ s else joinH (d'.take k) from by
              rw [take_snoc HX.out, joinT_snoc, joinH_snoc]
              exact ⟨rfl, rfl⟩)
            generalize hjh : joinH (d'.take k) = jh at *
            generalize hjt : joinT (d'.take k) = jt at *
            have HJ := Lib.hid hb
            clear hjh hjt hb
            have q1 : ¬ 9223372036854775807 < jh.size + s.size := by omega
            have q2 : ¬ 9223372036854775807 < jt.size + s.size := by omega
            cases h1 : Op.bytesLess s.toList [48] with
            | true =>
              have HN1 := Lib.hid (show noDigit s = true from by simp [noDigit, h1])
              go_wp2_with fail
              exact ⟨⟨k + 1, by omega, by go_num, by rw [HT.out.1, HT.out.2, HN1.out, if_pos rfl]; exact set_two _ HJ.out, ((HB.out.setCell (p := ⟨w5.heap.size, 0, none⟩) (Nat.le_refl _) _).setCell (p := ⟨w5.heap.size, 1, none⟩) (Nat.le_refl _) _).alloc (by simpa [World.setCell] using HB.out.size) _⟩, by simp [intOf]; omega⟩
            | false =>
              cases h2 : Op.bytesLess s.toList [57] with
              | true =>
                have HN1 := Lib.hid (show ¬ noDigit s = true from by simp [noDigit, h1, h2])
                go_wp2_with fail
                exact ⟨⟨k + 1, by omega, by go_num, by rw [HT.out.1, HT.out.2, if_neg HN1.out]; exact set_one _ HJ.out, (HB.out.setCell (p := ⟨w5.heap.size, 1, none⟩) (Nat.le_refl _) _).alloc (by simpa [World.setCell] using HB.out.size) _⟩, by simp [intOf]; omega⟩
              | false =>
                cases h3 : (s.toList == [57]) with
                | true =>
                  have HN1 := Lib.hid (show ¬ noDigit s = true from by simp [noDigit, h1, h2, h3])
                  go_wp2_with fail
                  exact ⟨⟨k + 1, by omega, by go_num, by rw [HT.out.1, HT.out.2, if_neg HN1.out]; exact set_one _ HJ.out, (HB.out.setCell (p := ⟨w5.heap.size, 1, none⟩) (Nat.le_refl _) _).alloc (by simpa [World.setCell] using HB.out.size) _⟩, by simp [intOf]; omega⟩
                | false =>
                  have HN1 := Lib.hid (show noDigit s = true from by simp [noDigit, h1, h2, h3])
                  go_wp2_with fail
                  exact ⟨⟨k + 1, by omega, by go_num, by rw [HT.out.1, HT.out.2, HN1.out, if_pos rfl]; exact set_two _ HJ.out, ((HB.out.setCell (p := ⟨w5.heap.size, 0, none⟩) (Nat.le_refl _) _).setCell (p := ⟨w5.heap.size, 1, none⟩) (Nat.le_refl _) _).alloc (by simpa [World.setCell] using HB.out.size) _⟩, by simp [intOf]; omega⟩
          · have hkN : d'.take k = d' := List.take_of_length_le (by rw [HD.out]; omega)
            rw [hkN] at hb
            have hj := HQ.out d' H5.out.2.2.1 H5.out.2.2.2
            rw [hj.1, hj.2] at hb
            have hlt2 : ¬ (k : Int) < 64 := by omega
            have c0 := cell_of_row _ _ 0 _ _ _ hb
            have c1 := cell_of_row _ _ 1 _ _ _ hb
            simp only [List.getElem?_toArray, List.getElem?_cons_zero, List.getElem?_cons_succ] at c0 c1
            have hg5 := owns_lt H5.out.1
            have r0 : wr.heap[w.heap.size + 1 + 1]? = some (.cells #[.string { data := #[] }, .string { data := #[] }] 201 (0, 0)) := by
              rw [HB.out.block _ (by have := HG.out; omega), H5.out.2.1.block _ (by have := HG.out; omega)]
              exact K2.out.1
            have s0 := cell_of_row _ _ 0 _ _ _ r0
            have s1 := cell_of_row _ _ 1 _ _ _ r0
            simp only [List.getElem?_toArray, List.getElem?_cons_zero, List.getElem?_cons_succ] at s0 s1
            have f0 := Lib.frozen_of_heap r0 0
            have f1 := Lib.frozen_of_heap r0 1
            have HR0 := Lib.hid r0
            clear hkN hj hb r0
            go_wp2_with fail
            exact bodyPost_ret (results_cell_row rfl _ _ (w.heap.size + 1 + 1) 201 #[.string hd, .string t] (0, 0) _ rfl (set_two' HR0.out) Tryz.underlying201 rfl (by kernel_rfl)) rfl ⟨rfl, ((((K2.out.2.trans (H5.out.2.1.mono (by have := HG.out; omega))).trans (HB.out.mono (by have := HG.out; omega))).setCell (p := ⟨w.heap.size + 1 + 1, 0, none⟩) (show w.heap.size ≤ w.heap.size + 1 + 1 by omega) _).setCell (p := ⟨w.heap.size + 1 + 1, 1, none⟩) (show w.heap.size ≤ w.heap.size + 1 + 1 by omega) _)⟩
end Go.Proofs.YtokehapgddicjaaGreatFmt
