/- The model of the join. -/
import Derived.Test.YtdoakedpkjlipaaGreatFmtK3
namespace Go.Proofs.YtdoakedpkjlipaaGreatFmt
open Go.RowKit
set_option linter.unusedVariables false
theorem empty_toList : ByteArray.empty.toList = [] := by
  unfold ByteArray.toList
  unfold ByteArray.toList.loop
  rfl
theorem drop_at (s : ByteArray) (k : Nat) (h : k < s.size) : s.data.toList.drop k = s[k] :: s.data.toList.drop (k + 1) := by
  have hl : k < s.data.toList.length := by simpa using h
  rw [List.drop_eq_getElem_cons hl]
  simp
  rfl
theorem u8_eq {x : UInt8} {n : Nat} (h : x.toNat = n) (hn : n < 256) : x = UInt8.ofNat n := by
  apply UInt8.toNat_inj.1
  rw [h]
  simp
  omega
theorem tok_slash (s : ByteArray) (k : Nat) (h : k < s.size) (h1 : s[k].toNat = 47) : stripTok (s.data.toList.drop k) = stripTok (s.data.toList.drop (k + 1)) := by
  rw [drop_at s k h, u8_eq h1 (by decide)]
  rfl
theorem tok_dot (s : ByteArray) (k : Nat) (h : k + 1 < s.size) (h1 : (s[k]'(by omega)).toNat = 46) (h2 : s[k + 1].toNat = 47) : stripTok (s.data.toList.drop k) = stripTok (s.data.toList.drop (k + 2)) := by
  rw [drop_at s k (by omega), drop_at s (k + 1) h, u8_eq h1 (by decide), u8_eq h2 (by decide)]
  rfl
theorem tok_end (s : ByteArray) : stripTok (s.data.toList.drop s.size) = s.data.toList.drop s.size := by
  have : s.data.toList.drop s.size = [] := List.drop_eq_nil_of_le (by simp)
  rw [this]
  rfl
theorem tok_other (l : List UInt8) (h1 : ∀ r, l ≠ 47 :: r) (h2 : ∀ r, l ≠ 46 :: 47 :: r) : stripTok l = l := by
  unfold stripTok
  split
  · exact absurd rfl (h1 _)
  · exact absurd rfl (h2 _)
  · rfl
theorem tok_stop (s : ByteArray) (k : Nat) (h : k < s.size) (h1 : s[k].toNat ≠ 47) (h2 : ∀ h' : k + 1 < s.size, s[k].toNat = 46 → s[k + 1].toNat ≠ 47) : stripTok (s.data.toList.drop k) = s.data.toList.drop k := by
  rw [drop_at s k h]
  refine tok_other _ (fun r e => ?_) (fun r e => ?_)
  · injection e with e1 _
    exact h1 (by rw [e1]; rfl)
  · injection e with e1 e2
    have hk : k + 1 < s.size := by
      rcases Nat.lt_or_ge (k + 1) s.size with h' | h'
      · exact h'
      · rw [List.drop_eq_nil_of_le (by simpa using h')] at e2
        cases e2
    rw [drop_at s (k + 1) hk] at e2
    injection e2 with e3 _
    exact h2 hk (by rw [e1]; rfl) (by rw [e3]; rfl)
theorem dot_yes (s : ByteArray) (h : 2 ≤ s.size) (h1 : (s[0]'(by omega)).toNat = 46) (h2 : (s[1]'(by omega)).toNat = 47) : stripDot s.data.toList = stripTok (s.data.toList.drop 2) := by
  have e : s.data.toList = s.data.toList.drop 0 := rfl
  rw [show stripDot s.data.toList = stripDot (s.data.toList.drop 0) from rfl, drop_at s 0 (by omega), drop_at s 1 (by omega), u8_eq h1 (by decide), u8_eq h2 (by decide)]
  rfl
theorem dot_no (s : ByteArray) (h : ∀ h' : 2 ≤ s.size, (s[0]'(by omega)).toNat = 46 → (s[1]'(by omega)).toNat ≠ 47) : stripDot s.data.toList = s.data.toList := by
  unfold stripDot
  split
  · next r hr =>
    have h2 : 2 ≤ s.size := by
      have := congrArg List.length hr
      simp at this
      omega
    have e0 := drop_at s 0 (by omega)
    have e1 := drop_at s 1 (by omega)
    rw [List.drop_zero, hr] at e0
    injection e0 with a1 a2
    rw [hr] at e1
    have a3 : (47 : UInt8) = s[1] := (List.cons.inj e1).1
    exact absurd (by rw [← a3]; rfl) (h h2 (by rw [← a1]; rfl))
  · rfl
set_option maxRecDepth 100000 in
set_option maxHeartbeats 400000 in
theorem strip_any (s : ByteArray) (w : World) (hs : s.size ≤ 1048576) :
    Calls Tryz.prog 16 #[.string s] w (fun e w' => ∃ t : ByteArray, e = .returned (.string t) ∧ t.data.toList = stripDot s.data.toList ∧ w' = w) := by
  by_cases hc : ∃ h : 2 ≤ s.size, (s[0]'(by omega)).toNat = 46 ∧ (s[1]'(by omega)).toNat = 47
  · obtain ⟨h2, h46, h47⟩ := hc
    have HD := Lib.hid (dot_yes s h2 h46 h47)
    go_enter Tryz.func16, Tryz.ntmps16
    go_wp2_with fail
    go_loop [3] (fun i => ∃ k : Nat, k ≤ s.size ∧ 2 ≤ k ∧ i = .int .i64 k ∧ stripTok (s.data.toList.drop k) = stripDot s.data.toList) (fun i => s.size - (intOf i).toNat)
    case atStart => exact ⟨2, h2, Nat.le_refl _, rfl, HD.out.symm⟩
    case round =>
      obtain ⟨k, hk, h2k, rfl, hE⟩ := hrel
      have HE := Lib.hid hE
      clear hE
      by_cases hlt : k < s.size
      · by_cases c1 : s[k].toNat = 47
        · have HN := Lib.hid ((tok_slash s k hlt c1).symm.trans HE.out)
          go_wp2_with fail
          exact ⟨⟨k + 1, by omega, by omega, by go_num, HN.out⟩, by simp [intOf]; omega⟩
        · by_cases h46 : s[k].toNat = 46
          · by_cases hl : k + 1 < s.size
            · by_cases h47' : s[k + 1].toNat = 47
              · have HN := Lib.hid ((tok_dot s k hl h46 h47').symm.trans HE.out)
                clear c1
                go_wp2_with fail
                exact ⟨⟨k + 2, by omega, by omega, by go_num, HN.out⟩, by simp [intOf]; omega⟩
              · have HN := Lib.hid ((tok_stop s k hlt c1 (fun _ _ => h47')).symm.trans HE.out)
                clear c1
                go_wp2_with fail
                all_goals (go_ret; exact ⟨_, rfl, by rw [Lib.extract_to_end]; exact HN.out, rfl⟩)
            · have HN := Lib.hid ((tok_stop s k hlt c1 (fun h _ => absurd h hl)).symm.trans HE.out)
              clear c1
              go_wp2_with fail
              all_goals (go_ret; exact ⟨_, rfl, by rw [Lib.extract_to_end]; exact HN.out, rfl⟩)
          · have HN := Lib.hid ((tok_stop s k hlt c1 (fun _ h => absurd h h46)).symm.trans HE.out)
            go_wp2_with fail
            all_goals (go_ret; exact ⟨_, rfl, by rw [Lib.extract_to_end]; exact HN.out, rfl⟩)
      · obtain rfl : k = s.size := by omega
        have HN := Lib.hid ((tok_end s).symm.trans HE.out)
        go_wp2_with fail
        go_ret
        exact ⟨_, rfl, by rw [← HN.out, List.drop_eq_nil_of_le (by simp)]; rfl, rfl⟩
  · have HD := Lib.hid (dot_no s (fun h h1 h2 => hc ⟨h, h1, h2⟩))
    by_cases h2 : 2 ≤ s.size
    · by_cases h46 : (s[0]'(by omega)).toNat = 46
      · have h47 : (s[1]'(by omega)).toNat ≠ 47 := fun h => hc ⟨h2, h46, h⟩
        have h47b : ((((s[1]'(by omega)).toNat : Nat) : Int) != 47) = true := by rw [bne_iff_ne]; omega
        clear hc
        go_enter Tryz.func16, Tryz.ntmps16
        go_wp2_with fail
        all_goals first
          | (go_ret; exact ⟨_, rfl, HD.out.symm, rfl⟩)
          | (exfalso; omega)
          | (trace_state; sorry)
      · clear hc
        go_enter Tryz.func16, Tryz.ntmps16
        go_wp2_with fail
        all_goals (go_ret; exact ⟨_, rfl, HD.out.symm, rfl⟩)
    · clear hc
      go_enter Tryz.func16, Tryz.ntmps16
      go_wp2_with fail
      all_goals first
        | (go_ret; exact ⟨_, rfl, HD.out.symm, rfl⟩)
        | (exfalso; omega)
theorem suf_last (l : List UInt8) (x : UInt8) : Lib.hasSuffix (l ++ [x]) [47] = (47 == x) := by
  simp [Lib.hasSuffix, List.isSuffixOf, List.isPrefixOf]
theorem suf_byte (p : ByteArray) (h : 0 < p.size) : Lib.hasSuffix p.data.toList [47] = ((47 : UInt8) == p[p.size - 1]) := by
  have e : p.data.toList = p.data.toList.take (p.size - 1) ++ [p[p.size - 1]] := by
    have h1 := drop_at p (p.size - 1) (by omega)
    rw [show p.size - 1 + 1 = p.size by omega, (List.drop_eq_nil_of_le (by simp) : p.data.toList.drop p.size = [])] at h1
    rw [← h1]
    exact (List.take_append_drop _ _).symm
  rw [e]
  exact suf_last _ _
theorem ba_eq {a b : ByteArray} (h : a.data.toList = b.data.toList) : a = b := by
  cases a
  cases b
  exact congrArg ByteArray.mk (Array.toList_inj.1 h)
theorem joinB_slash (p s t : ByteArray) (ht : t.data.toList = stripDot s.data.toList) (h : 0 < p.size) (h1 : p[p.size - 1].toNat = 47) : p ++ t = joinB p s := by
  apply ba_eq
  rw [joinB_list]
  have e := suf_byte p h
  rw [u8_eq h1 (by decide)] at e
  have e2 : slashL p.data.toList = [] := by
    unfold slashL
    rw [e]
    rfl
  unfold joinL
  rw [e2]
  simp [ht]
theorem joinB_none (p s t : ByteArray) (ht : t.data.toList = stripDot s.data.toList) (h : 0 < p.size) (h1 : p[p.size - 1].toNat ≠ 47) : p ++ ⟨#[47]⟩ ++ t = joinB p s := by
  apply ba_eq
  rw [joinB_list]
  have e := suf_byte p h
  have e3 : ((47 : UInt8) == p[p.size - 1]) = false := by
    rw [beq_eq_false_iff_ne]
    intro h2
    exact h1 (by rw [← h2]; rfl)
  have e2 : slashL p.data.toList = [47] := by
    unfold slashL
    rw [e, e3]
    rfl
  unfold joinL
  rw [e2]
  simp [ht]
set_option maxRecDepth 100000 in
set_option maxHeartbeats 400000 in
theorem model_any (p s : ByteArray) (w : World) (hp : p.size ≤ 1048576) (hp0 : p.toList.isEmpty = false) (hs : s.size ≤ 1048576) :
    Calls Tryz.prog 11 #[.string p, .string s] w (fun e w' => e = .returned (.string (joinB p s)) ∧ w' = w) := by
  have HST := Lib.hid (strip_any s w hs)
  go_enter Tryz.func11, Tryz.ntmps11
  go_wp2_with fail
  refine HST.out.mono ?_
  rintro e w1 ⟨t, rfl, ht, rfl⟩
  have htl : t.size ≤ 1048576 := by
    have h1 := congrArg List.length ht
    have h2 := stripDot_le s.data.toList
    have h3 := size_list t
    have h4 := size_list s
    omega
  have hpos : 0 < p.size := by
    rcases Nat.eq_zero_or_pos p.size with h | h
    · exfalso
      have : p.toList = [] := by
        have e : p = ByteArray.empty := ba_eq (by
          have : p.data.toList.length = 0 := by simpa using h
          rw [List.eq_nil_of_length_eq_zero this]
          rfl)
        rw [e]
        exact empty_toList
      rw [this] at hp0
      cases hp0
    · exact h
  have HT := Lib.hid ht
  clear ht hp0
  by_cases h1 : p[p.size - 1].toNat = 47
  · have HJ := Lib.hid (joinB_slash p s t HT.out hpos h1)
    go_wp2_with fail
    go_ret
    exact ⟨by first | rfl | exact congrArg (fun x => Ending.returned (Value.string x)) HJ.out, rfl⟩
  · have HJ := Lib.hid (joinB_none p s t HT.out hpos h1)
    go_wp2_with fail
    go_ret
    exact ⟨by first | rfl | exact congrArg (fun x => Ending.returned (Value.string x)) HJ.out, rfl⟩
end Go.Proofs.YtdoakedpkjlipaaGreatFmt
