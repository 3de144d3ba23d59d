/- The law's walk: over the listing made empty. -/
import Derived.Test.YthnfohpiiafciaaGreatFmtV4
namespace Go.Proofs.YthnfohpiiafciaaGreatFmt
open Go.RowKit

set_option maxRecDepth 100000 in
set_option maxHeartbeats 1000000 in
theorem law4_any (s : ByteArray) (a : Option Addr) (n c : Nat) (S : Nat → ByteArray) (w : World) (hs : s.size ≤ maxLen) (hn : n ≤ maxLen) (hr : RowAt w a n (strAt S)) (_h : ∀ i, i < n → (S i).size ≤ maxLen) (ht : Tabs w) :
    Calls Tryz.prog 4 #[.string s, .slice a n c] w (LawOk w) := by
  have Hr := Lib.hid hr
  clear hr
  clear _h
  have HT := Lib.hid ht
  clear ht
  have Hs := Lib.hid hs
  have Hn := Lib.hid hn
  clear hs hn
  go_enter Tryz.func4, Tryz.ntmps4
  go_wp2_with fail
  refine (zz_FnLoadAsIndexUnreadableDirFindsNothing s a n c S w Hs.out Hn.out Hr.out).mono ?_
  rintro e w' ⟨b, rfl, hb, rfl⟩
  cases b with
  | false =>
    go_wp2
    go_ret
    exact ⟨rfl, Below.refl _ _⟩
  | true =>
    have HB := Lib.hid (hb rfl)
    clear hb
    go_wp2_with fail
    refine (sizeOK_any s a n c S w HB.out.1 HB.out.2.1 Hr.out HB.out.2.2).mono ?_
    rintro e w' ⟨b, rfl, hb, rfl⟩
    clear hb
    cases b with
    | false =>
      go_wp2
      go_ret
      exact ⟨rfl, Below.refl _ _⟩
    | true =>
      go_wp2_with fail
      refine (cloneStrings_any a n c S w HB.out.2.1 Hr.out).mono ?_
      rintro e w1 ⟨a1, c1, rfl, hc1, hr1, hb1⟩
      have Hr1 := Lib.hid hr1
      clear hr1
      go_wp2_with fail
      refine (zz_empty s a1 n c1 S w1 HB.out.2.1 Hr1.out HB.out.2.2 (HT.out.below hb1)).mono ?_
      rintro e w2 ⟨rfl, hb2⟩
      have hbs := hb1.size
      unfold pp0
      go_wp2
      go_ret
      exact ⟨rfl, (hb1.trans (hb2.mono hbs)).alloc (Nat.le_trans hbs hb2.size) _⟩
end Go.Proofs.YthnfohpiiafciaaGreatFmt
