/- The exported tryToParseValue; a text that is the percent sign. -/
import Derived.Test.YtodlhjdogcpffaaDoorTtv
import Derived.Test.YtodlhjdogcpffaaDoorShownDec
namespace Go.Proofs.YtodlhjdogcpffaaDoor
open Go.RowKit

theorem toList_loop (bs : ByteArray) : ∀ (n i : Nat) (r : List UInt8), bs.size - i = n → ByteArray.toList.loop bs i r = r.reverse ++ bs.data.toList.drop i := by
  intro n
  induction n with
  | zero =>
    intro i r h
    unfold ByteArray.toList.loop
    rw [if_neg (by omega), List.drop_eq_nil_of_le (by show bs.data.size ≤ i; have : bs.size = bs.data.size := rfl; omega), List.append_nil]
  | succ n ih =>
    intro i r h
    unfold ByteArray.toList.loop
    rw [if_pos (by omega), ih (i + 1) _ (by omega)]
    have hi : i < bs.data.toList.length := by show i < bs.data.size; have : bs.size = bs.data.size := rfl; omega
    rw [List.drop_eq_getElem_cons hi, List.reverse_cons, List.append_assoc]
    congr 1
    show bs.get! i :: _ = _
    congr 1
    unfold ByteArray.get!
    simp at hi
    simp [hi]
theorem toList_eq (bs : ByteArray) : bs.toList = bs.data.toList := by
  unfold ByteArray.toList
  rw [toList_loop bs _ 0 [] rfl]; simp
theorem pct_of (u : ByteArray) (h : (u.toList == [37]) = true) : u = { data := #[37] } := by
  rw [toList_eq] at h
  apply ByteArray.ext
  apply Array.ext'
  simpa using h

set_option maxRecDepth 100000 in
theorem value_any (v : Nat) (w : World) : Calls Tryd.prog 19 #[.agg #[.float .f64 v]] w fun e w' => e = .returned (.float .f64 v) ∧ Below w.heap.size w w' := by
  go_enter Tryd.func19, Tryd.ntmps19
  go_wp2
  go_ret
  exact ⟨rfl, (Below.refl _ _).alloc (Nat.le_refl _) _⟩

set_option maxRecDepth 100000 in
set_option maxHeartbeats 1000000 in
theorem zzttv_any (s u : ByteArray) (v : Nat) (k loc o kind : Int) (ok : Bool) (w : World) (k0 : 0 ≤ kind) (k1 : kind ≤ 255)
    (h : ∀ wx, Below w.heap.size w wx → Calls Tryd.prog 18 #[tokU k s loc o, .int .u8 kind] wx (Got v u ok wx)) :
    Calls Tryd.prog 13 #[tokU k s loc o, .int .u8 kind] w fun e w' => e = .returned (.tuple #[.string u, .float .f64 v, .bool ok]) ∧ Below w.heap.size w w' := by
  have HM := Lib.hid h
  clear h
  have hw : IntKind.u8.wrap kind = kind := by rw [IntKind.wrap_u8]; omega
  unfold Got at *
  go_enter Tryd.func13, Tryd.ntmps13
  go_wp2_with fail
  refine (HM.out _ ?_).mono ?_
  · exact (Below.refl _ _).alloc (Nat.le_refl _) _
  rintro e w1 ⟨rfl, hb1⟩
  have H1 := Lib.hid (((Below.refl _ _).alloc (Nat.le_refl _) _).trans (hb1.mono (by simp)))
  clear hb1
  have hst := fun (a : Addr) (md : Mode) (wx : World) => run_store (P := Tryd.prog) wx a (.float .f64 v) md rfl
  go_wp2_with fail
  have HB : Hid (Below w.heap.size w (w1.alloc (.cells #[.string u, .float .f64 v] 52))) := H1.out.alloc H1.out.size _
  go_region_with (go_at_call 19; refine (value_any v _).mono ?_; rintro e w2 ⟨rfl, hb2⟩; have hrow := (hb2.block w1.heap.size (by simp)).trans (heap_alloc_new w1 (.cells #[.string u, .float .f64 v] 52)); have c0 := cell_of_row _ _ 0 _ _ _ hrow; have c1 := cell_of_row _ _ 1 _ _ _ hrow; simp at c0 c1; have HB2 := Lib.hid hb2; clear hb2 hrow)
  all_goals
    go_wp2
    go_ret3
    exact ⟨rfl, HB.out.drew.trans (HB2.out.mono HB.out.drew.size)⟩
end Go.Proofs.YtodlhjdogcpffaaDoor
