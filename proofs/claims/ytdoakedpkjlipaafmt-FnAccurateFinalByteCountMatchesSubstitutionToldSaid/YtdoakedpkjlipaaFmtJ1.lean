/- fmt's text of three strings; the join of a public path with a relative one. -/
import Derived.Test.YtdoakedpkjlipaaFmtProg
import Derived.Test.YtdoakedpkjlipaaFmtBase
import Derived.Test.YtdoakedpkjlipaaFmtShelf
import Derived.Stop.CallBack
import Derived.Stop.IfaceNil
import Derived.Stop.Texts
import Derived.Stop.JoinedTold
import Derived.Stop.FmtTextKit
import Derived.Outline
import GoSem.ClaimData
namespace Go.Proofs.YtdoakedpkjlipaaFmt
open Go.RowKit Go.Extern.Stop Go.Stop Go.Extern Go.Kit
set_option linter.unusedVariables false

@[go_sem] theorem call_sprintf (args : Array Value) (w : World) : (callFunc 28 args).run Tryf.prog w = ((FmtStop.sprintf #[9, 331] #[9] args).run Tryf.prog w).andThen fun v w' => .ok (.value v) w' :=
  run_callFunc_extern Tryf.func28 (by kernel_rfl) (by kernel_rfl) (by kernel_rfl) (by kernel_rfl) args w
@[go_sem] theorem fmt_guard (name : String) (w : World) : (FmtStop.guard name).run Tryf.prog w = .ok () w := by kernel_rfl
@[go_sem] theorem fmt_sss : FmtStop.printed? ⟨#[37, 115, 37, 115, 37, 115]⟩ 3 = some [(0, 115, false), (1, 115, false), (2, 115, false)] := by kernel_rfl
@[go_sem] theorem fmt_sssr (w : World) : (FmtDoors.printed ⟨#[37, 115, 37, 115, 37, 115]⟩ 3).run Tryf.prog w = .ok [(0, 115, false), (1, 115, false), (2, 115, false)] w := by kernel_rfl
def shape9 : List UInt8 := [12, 6, 0, 0, 0, 0, 0, 0, 0, 115, 116, 114, 105, 110, 103]
@[go_sem] theorem op9_115 (name : String) (x : ByteArray) (w : World) : (FmtStop.operand name false 115 false (.iface 9 (.string x))).run Tryf.prog w = .ok (shape9, FmtStop.pack x.data.toList) w := by kernel_rfl
theorem sss_parse : (FmtText.parse [37, 115, 37, 115, 37, 115]).map FmtText.glue = some [.verb {} 115, .verb {} 115, .verb {} 115] := by rfl
def sssReading (a b c : List UInt8) : List (List UInt8) := [[37, 115, 37, 115, 37, 115], shape9, FmtStop.pack a, shape9, FmtStop.pack b, shape9, FmtStop.pack c]
theorem sss_text (a b c : List UInt8) (ha : a.length < 2 ^ 64) (hb : b.length < 2 ^ 64) (hc : c.length < 2 ^ 64) : FmtText.text "fmt.Sprintf" (sssReading a b c) = some (a ++ b ++ c) := by
  have h1 := FmtText.operand_str_at (sh := shape9) rfl rfl a ha
  have h2 := FmtText.operand_str_at (sh := shape9) rfl rfl b hb
  have h3 := FmtText.operand_str_at (sh := shape9) rfl rfl c hc
  rw [sssReading, FmtText.text_sprintf_glued sss_parse (FmtText.operands_cons h1 (FmtText.operands_cons h2 (FmtText.operands_cons h3 FmtText.operands_nil)))]
  simp [FmtText.render, FmtText.printArg_s_str]
/-- A string of slashes and './' ahead of the rest. -/
def stripTok : List UInt8 → List UInt8
  | 47 :: r => stripTok r
  | 46 :: 47 :: r => stripTok r
  | l => l
def stripDot : List UInt8 → List UInt8
  | 46 :: 47 :: r => stripTok r
  | l => l
def slashL (pub : List UInt8) : List UInt8 := if Lib.hasSuffix pub [47] then [] else [47]
def joinL (pub rel : List UInt8) : List UInt8 := pub ++ slashL pub ++ stripDot rel
theorem stripTok_le (l : List UInt8) : (stripTok l).length ≤ l.length := by
  fun_induction stripTok l <;> simp_all <;> omega
theorem stripDot_le (l : List UInt8) : (stripDot l).length ≤ l.length := by
  unfold stripDot
  split
  · have := stripTok_le ‹_›; simp; omega
  · exact Nat.le_refl _
theorem joinL_le (p r : List UInt8) : (joinL p r).length ≤ p.length + 1 + r.length := by
  have := stripDot_le r
  simp [joinL, slashL]
  split <;> simp <;> omega

theorem pre_dot {l : List UInt8} (h : Lib.hasPrefix l [46, 47] = true) : ∃ r, l = 46 :: 47 :: r := by
  obtain ⟨r, rfl⟩ := List.isPrefixOf_iff_prefix.1 h
  exact ⟨r, rfl⟩
theorem pre_slash {l : List UInt8} (h : Lib.hasPrefix l [47] = true) : ∃ r, l = 47 :: r := by
  obtain ⟨r, rfl⟩ := List.isPrefixOf_iff_prefix.1 h
  exact ⟨r, rfl⟩
theorem strip_no {l : List UInt8} (h : Lib.hasPrefix l [46, 47] = false) : stripDot l = l := by
  unfold stripDot
  split
  · simp [Lib.hasPrefix] at h
  · rfl
theorem tok_no {l : List UInt8} (h : Lib.hasPrefix l [46, 47] = false) (h2 : Lib.hasPrefix l [47] = false) : stripTok l = l := by
  unfold stripTok
  split
  · simp [Lib.hasPrefix] at h2
  · simp [Lib.hasPrefix] at h
  · rfl
theorem size_list (s : ByteArray) : s.data.toList.length = s.size := by simp
set_option maxRecDepth 100000 in
set_option maxHeartbeats 1000000 in
theorem join_any (F : Interp) (pub rel : ByteArray) (w : World) (hF : F.told.answers w.tape) (hp : pub.size ≤ 1048576) (hp0 : pub.toList.isEmpty = false) (hr : rel.size ≤ 1048576) :
    Calls Tryf.prog 26 #[.string pub, .string rel] w fun e w' => e = .returned (.string ⟨(joinL pub.data.toList rel.data.toList).toArray⟩) ∧ Below w.heap.size w w' := by
  have hfin : ∀ (x : ByteArray) (sl : List UInt8), x.size ≤ 1048576 → x.data.toList = stripDot rel.data.toList → sl = slashL pub.data.toList → FmtStop.textOf (F.told "fmt.Sprintf" (sssReading pub.data.toList sl x.data.toList) 0) = ⟨(joinL pub.data.toList rel.data.toList).toArray⟩ := by
    intro x sl hx e1 e2
    have hl1 := size_list pub
    have hl2 := size_list x
    have hl3 : sl.length ≤ 1 := by rw [e2]; unfold slashL; split <;> simp
    have ht := told_string F (sss_text pub.data.toList sl x.data.toList (by omega) (by omega) (by omega)) (by simp only [List.length_append]; omega)
    rw [← textOf_list] at ht
    have hj : (FmtStop.textOf (F.told "fmt.Sprintf" (sssReading pub.data.toList sl x.data.toList) 0)).data.toList = joinL pub.data.toList rel.data.toList := by rw [ht, e1, e2]; rfl
    rw [← hj]
  have HFIN := Lib.hid hfin
  clear hfin
  have hF' := answers_open hF
  go_enter Tryf.func26, Tryf.ntmps26
  go_wp2_with fail
  refine (Tryf.strings_HasPrefix rel _ w).mono ?_
  rintro e w1 ⟨rfl, hw⟩
  subst hw
  cases hpre : Lib.hasPrefix rel.data.toList [46, 47] with
  | true =>
    have h2 : 2 ≤ rel.size := by
      obtain ⟨r, hr⟩ := pre_dot hpre
      have := size_list rel
      rw [hr] at this
      simp at this
      omega
    have HP := Lib.hid hpre
    clear hpre
    have e0 : stripTok (rel.extract 2 rel.size).data.toList = stripDot rel.data.toList := by
      obtain ⟨r, hr⟩ := pre_dot HP.out
      rw [Lib.extract_to_end, hr]
      rfl
    have s0 : (rel.extract 2 rel.size).size ≤ 1048576 := by simp; omega
    have HE0 := Lib.hid (And.intro e0 s0)
    clear e0 s0
    go_wp2_with fail
    go_loop [1] (fun v => ∃ x : ByteArray, v = .string x ∧ x.size ≤ 1048576 ∧ stripTok x.data.toList = stripDot rel.data.toList) (fun v => match v with | .string x => x.size | _ => 0)
    case atStart => exact ⟨_, rfl, HE0.out.2, HE0.out.1⟩
    case round =>
      obtain ⟨x, rfl, hx, he⟩ := hrel
      have HE := Lib.hid he
      clear he
      go_wp2_with fail
      refine (Tryf.strings_HasPrefix x _ _).mono ?_
      rintro e w1 ⟨rfl, hw⟩
      subst hw
      cases h1 : Lib.hasPrefix x.data.toList [47] with
      | true =>
        have hx1 : 1 ≤ x.size := by
          obtain ⟨r, hr⟩ := pre_slash h1
          have := size_list x
          rw [hr] at this
          simp at this
          omega
        have e1 : stripTok (x.extract 1 x.size).data.toList = stripDot rel.data.toList := by
          rw [← HE.out]
          obtain ⟨r, hr⟩ := pre_slash h1
          rw [Lib.extract_to_end, hr]
          simp [stripTok]
        have HE1 := Lib.hid e1
        clear e1 h1
        go_wp2_with fail
        go_round
        case rel => exact ⟨_, rfl, by simp; omega, HE1.out⟩
        case measure => simp; omega
      | false =>
        have H1 := Lib.hid h1
        clear h1
        go_wp2_with fail
        refine (Tryf.strings_HasPrefix x _ _).mono ?_
        rintro e w1 ⟨rfl, hw⟩
        subst hw
        cases h2 : Lib.hasPrefix x.data.toList [46, 47] with
        | true =>
          have hx1 : 2 ≤ x.size := by
            obtain ⟨r, hr⟩ := pre_dot h2
            have := size_list x
            rw [hr] at this
            simp at this
            omega
          have e1 : stripTok (x.extract 2 x.size).data.toList = stripDot rel.data.toList := by
            rw [← HE.out]
            obtain ⟨r, hr⟩ := pre_dot h2
            rw [Lib.extract_to_end, hr]
            simp [stripTok]
          have HE1 := Lib.hid e1
          clear e1 h2
          go_wp2_with fail
          go_round
          case rel => exact ⟨_, rfl, by simp; omega, HE1.out⟩
          case measure => simp; omega
        | false =>
          have HX := Lib.hid (show x.data.toList = stripDot rel.data.toList by rw [← HE.out, tok_no h2 H1.out])
          clear h2
          go_wp2_with fail
          refine (Tryf.strings_HasSuffix pub _ _ (by omega)).mono ?_
          rintro e w1 ⟨rfl, hw⟩
          subst hw
          cases hs : Lib.hasSuffix pub.data.toList [47] with
          | true =>
            have HS := Lib.hid (show slashL pub.data.toList = [] by simp [slashL, hs])
            clear hs
            go_wp2_with fail
            go_ret
            exact ⟨congrArg Ending.returned (congrArg Value.string (HFIN.out x [] hx HX.out HS.out.symm)), ((Below.refl _ _).alloc (Nat.le_refl _) _).drew⟩
          | false =>
            have HS := Lib.hid (show slashL pub.data.toList = [47] by simp [slashL, hs])
            clear hs
            go_wp2_with fail
            go_ret
            exact ⟨congrArg Ending.returned (congrArg Value.string (HFIN.out x [47] hx HX.out HS.out.symm)), ((Below.refl _ _).alloc (Nat.le_refl _) _).drew⟩
  | false =>
    have HP := Lib.hid (strip_no hpre)
    clear hpre
    go_wp2_with fail
    refine (Tryf.strings_HasSuffix pub _ _ (by omega)).mono ?_
    rintro e w1 ⟨rfl, hw⟩
    subst hw
    cases hs : Lib.hasSuffix pub.data.toList [47] with
    | true =>
      have HS := Lib.hid (show slashL pub.data.toList = [] by simp [slashL, hs])
      clear hs
      go_wp2_with fail
      go_ret
      exact ⟨congrArg Ending.returned (congrArg Value.string (HFIN.out rel [] hr HP.out.symm HS.out.symm)), ((Below.refl _ _).alloc (Nat.le_refl _) _).drew⟩
    | false =>
      have HS := Lib.hid (show slashL pub.data.toList = [47] by simp [slashL, hs])
      clear hs
      go_wp2_with fail
      go_ret
      exact ⟨congrArg Ending.returned (congrArg Value.string (HFIN.out rel [47] hr HP.out.symm HS.out.symm)), ((Below.refl _ _).alloc (Nat.le_refl _) _).drew⟩
end Go.Proofs.YtdoakedpkjlipaaFmt
