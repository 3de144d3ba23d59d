/- sort.Sort's family over rows of any make: what stands in the row is a relation of the caller's. The first four: insertionSort, reverseRange, siftDown, heapSort. -/
import Derived.Shelf.GgSortMore.Iface
import Derived.Sort.WalkB3
import Derived.Deep.LoopGhost
import Derived.Sort.WalkB12
import Derived.Lib.Hide
import Derived.Below
namespace Go.Proofs.YtokehapgddicjaaGreatFmt
open Go.Shelf Go.RowKit Go.Lib
open Go.Sort hiding Below
set_option linter.unusedVariables false
variable {P : Program} {ρ : Ren} {α : Type} [Inhabited α]
/-- The blocks from B on, as many as there were, are as they were. -/
def Kept (B : Nat) (w w' : World) : Prop := w.heap.size ≤ w'.heap.size ∧ ∀ k, B ≤ k → k < w.heap.size → w'.heap[k]? = w.heap[k]?
theorem Kept.refl (B : Nat) (w : World) : Kept B w w := ⟨Nat.le_refl _, fun _ _ _ => rfl⟩
theorem Kept.trans {B : Nat} {a b c : World} (h : Kept B a b) (k : Kept B b c) : Kept B a c :=
  ⟨Nat.le_trans h.1 k.1, fun i h1 h2 => (k.2 i h1 (Nat.lt_of_lt_of_le h2 h.1)).trans (h.2 i h1 h2)⟩
theorem Kept.of_below {B : Nat} {a b : World} (h : Below a.heap.size a b) : Kept B a b := ⟨h.size, fun i _ h2 => h.block i h2⟩
/-- What the caller of a sort hands over: the relation 'd stands in the row, in this world' (n elements; the blocks from B on are nobody's), and its two methods. -/
structure Sorts (P : Program) (gl gs : Nat) (rv : Value) (lt : α → α → Bool) (n B : Nat) (St : Array α → World → Prop) : Prop where
  size : ∀ d w, St d w → d.size = n
  base : ∀ d w, St d w → B ≤ w.heap.size
  keep : ∀ d w w', St d w → Below B w w' → St d w'
  less : ∀ d w, St d w → ∀ i j : Nat, i < n → j < n → Calls P gl #[rv, .int .i64 i, .int .i64 j] w (fun e w' => e = .returned (.bool (lt d[i]! d[j]!)) ∧ Below w.heap.size w w')
  swap : ∀ d w, St d w → ∀ i j : Nat, i < n → j < n → Calls P gs #[rv, .int .i64 i, .int .i64 j] w (fun e w' => e = .returned (.tuple #[]) ∧ St (swp d i j) w' ∧ Kept B w w')
theorem Sorts.after {gl gs : Nat} {rv : Value} {lt : α → α → Bool} {n B : Nat} {St : Array α → World → Prop} (S : Sorts P gl gs rv lt n B St) {d : Array α} {w w' : World} (h : St d w) (hb : Below w.heap.size w w') : St d w' := S.keep d w w' h (hb.mono (S.base d w h))
/-- 'Less' where the two places stand as integers. -/
theorem Sorts.lessAt {gl gs : Nat} {rv : Value} {lt : α → α → Bool} {n B : Nat} {St : Array α → World → Prop} (S : Sorts P gl gs rv lt n B St) {d : Array α} {w : World} (h : St d w) {x y : Int} (i j : Nat) (hx : x = i) (hy : y = j) (hi : i < n) (hj : j < n) (v : Bool) (hv : lt d[i]! d[j]! = v) :
    Calls P gl #[rv, .int .i64 x, .int .i64 y] w (fun e w' => e = .returned (.bool v) ∧ St d w' ∧ Kept B w w') := by
  subst hx hy hv
  exact (S.less d w h i j hi hj).mono fun _ _ ⟨he, hb⟩ => ⟨he, S.after h hb, Kept.of_below hb⟩
theorem Sorts.swapAt {gl gs : Nat} {rv : Value} {lt : α → α → Bool} {n B : Nat} {St : Array α → World → Prop} (S : Sorts P gl gs rv lt n B St) {d : Array α} {w : World} (h : St d w) {x y : Int} (i j : Nat) (hx : x = i) (hy : y = j) (hi : i < n) (hj : j < n) :
    Calls P gs #[rv, .int .i64 x, .int .i64 y] w (fun e w' => e = .returned (.tuple #[]) ∧ St (swp d i j) w' ∧ Kept B w w') := by
  subst hx hy
  exact S.swap d w h i j hi hj
variable {T : TypeId} {rv : Value} {gl gs : Nat} {lt : α → α → Bool} {n B : Nat} {St : Array α → World → Prop}
set_option maxHeartbeats 1000000 in
set_option maxRecDepth 100000 in
theorem insertion_any (L : LaysGt.n33 P ρ) (rL : Reaches P T rv "Less" gl) (rS : Reaches P T rv "Swap" gs) (S : Sorts P gl gs rv lt n B St) (a b : Nat) (d : Array α) (w : World) (h : St d w) (hab : a ≤ b) (hb : b ≤ n) (hsz : n < 4611686018427387904) :
    Calls P (ρ.f 33) #[.iface T rv, .int .i64 a, .int .i64 b] w (fun e w' => e = .returned (.tuple #[]) ∧ St (Go.Sort.insertionSort lt d a b) w' ∧ Kept B w w') := by
  have mixed := L.mixed
  have t0 := L.t0
  have a0 := L.a0
  have z0 := L.z0
  have v0 := L.v0
  have t3 := L.t3
  have a3 := L.a3
  have z3 := L.z3
  have v3 := L.v3
  have t4 := L.t4
  have a4 := L.a4
  have z4 := L.z4
  have v4 := L.v4
  have t26 := L.t26
  have a26 := L.a26
  have z26 := L.z26
  have v26 := L.v26
  have t38 := L.t38
  have a38 := L.a38
  have z38 := L.z38
  have v38 := L.v38
  have t43 := L.t43
  have a43 := L.a43
  have z43 := L.z43
  have v43 := L.v43
  have t45 := L.t45
  have a45 := L.a45
  have z45 := L.z45
  have v45 := L.v45
  have mL : ∀ w, Sem.run P (method (P.types.size + 100) T rv "Less") w = .ok (gl, rv) w := rL.finds
  have eL := rL.enters
  have mS : ∀ w, Sem.run P (method (P.types.size + 100) T rv "Swap") w = .ok (gs, rv) w := rS.finds
  have eS := rS.enters
  have H0 := Lib.hid h
  clear h
  go_enter L.f33, BodyGt.n33_ntmps ρ
  go_wp2
  go_loopw [6] (fun vi wr => ∃ (i : Nat) (dk : Array α), vi = .int .i64 i ∧ a < i ∧ i ≤ b + 1 ∧ Hid (St dk wr ∧ Kept B w wr) ∧ Hid (insOuter lt a b i dk = insOuter lt a b (a + 1) d)) (fun vi _ => b + 1 - (intOf vi).toNat)
  case atStart => exact ⟨a + 1, d, by go_num, by omega, by omega, ⟨H0.out, Kept.refl _ _⟩, rfl⟩
  case round =>
    obtain ⟨i, dk, rfl, hai, hib, HS, HO⟩ := hrel
    by_cases hlt : i < b
    · go_wp2
      go_loopw [7] (fun vj w2 => ∃ (j : Nat) (dj : Array α), vj = .int .i64 j ∧ a ≤ j ∧ j ≤ i ∧ Hid (St dj w2 ∧ Kept B w w2) ∧ Hid (insInner lt a j dj = insInner lt a i dk)) (fun vj _ => (intOf vj).toNat)
      case atStart => exact ⟨i, dk, rfl, by omega, Nat.le_refl _, HS, rfl⟩
      case round =>
        obtain ⟨j, dj, rfl, haj, hji, HS2, HI⟩ := hrel
        clear HS
        by_cases hja : a < j
        · cases hlv : lt dj[j]! dj[j - 1]! with
          | true =>
            have hl := S.lessAt HS2.out.1 (x := (j : Int)) (y := (j : Int) - 1) j (j - 1) rfl (by omega) (by omega) (by omega) true hlv
            go_wp2_with (first
              | (go_at_fn gl; refine hl.mono ?_; rintro e w3 ⟨rfl, h3, k3⟩)
              | (go_at_fn gs; refine (S.swapAt h3 (x := (j : Int)) (y := (j : Int) - 1) j (j - 1) rfl (by omega) (by omega) (by omega)).mono ?_; rintro e w4 ⟨rfl, h4, k4⟩))
            go_roundw
            case rel =>
              refine ⟨j - 1, swp dj j (j - 1), by congr 1; omega, by omega, by omega, ⟨h4, (HS2.out.2.trans k3).trans k4⟩, ?_⟩
              show _ = _
              rw [← HI.out, insInner_go lt a j dj hja hlv]
            case measure => simp [intOf]; omega
          | false =>
            have hl := S.lessAt HS2.out.1 (x := (j : Int)) (y := (j : Int) - 1) j (j - 1) rfl (by omega) (by omega) (by omega) false hlv
            go_wp2_with (go_at_fn gl; refine hl.mono ?_; rintro e w3 ⟨rfl, h3, k3⟩)
            go_roundw
            case rel => exact ⟨i + 1, dj, by go_num, by omega, by omega, ⟨h3, HS2.out.2.trans k3⟩, (show _ = _ from by rw [← HO.out, insOuter_go _ _ _ _ _ hlt, ← HI.out, insInner_stop _ _ _ _ (Or.inr hlv)])⟩
            case measure => simp [intOf]; omega
        · go_wp2
          go_roundw
          case rel => exact ⟨i + 1, dj, by go_num, by omega, by omega, HS2, (show _ = _ from by rw [← HO.out, insOuter_go _ _ _ _ _ hlt, ← HI.out, insInner_stop _ _ _ _ (Or.inl (by omega))])⟩
          case measure => simp [intOf]; omega
    · go_wp2
      go_end0
      exact ⟨rfl, by unfold Go.Sort.insertionSort; rw [← HO.out, insOuter_stop _ _ _ _ _ hlt]; exact HS.out.1, HS.out.2⟩
set_option maxHeartbeats 1000000 in
set_option maxRecDepth 100000 in
theorem reverse_any (L : LaysGt.n37 P ρ) (rS : Reaches P T rv "Swap" gs) (S : Sorts P gl gs rv lt n B St) (a b : Nat) (d : Array α) (w : World) (h : St d w) (hab : a ≤ b) (hb : b ≤ n) (hsz : n < 4611686018427387904) :
    Calls P (ρ.f 37) #[.iface T rv, .int .i64 a, .int .i64 b] w (fun e w' => e = .returned (.tuple #[]) ∧ St (reverseRange d a b) w' ∧ Kept B w w') := by
  have mixed := L.mixed
  have t0 := L.t0
  have a0 := L.a0
  have z0 := L.z0
  have v0 := L.v0
  have t3 := L.t3
  have a3 := L.a3
  have z3 := L.z3
  have v3 := L.v3
  have t4 := L.t4
  have a4 := L.a4
  have z4 := L.z4
  have v4 := L.v4
  have t26 := L.t26
  have a26 := L.a26
  have z26 := L.z26
  have v26 := L.v26
  have t38 := L.t38
  have a38 := L.a38
  have z38 := L.z38
  have v38 := L.v38
  have t43 := L.t43
  have a43 := L.a43
  have z43 := L.z43
  have v43 := L.v43
  have t45 := L.t45
  have a45 := L.a45
  have z45 := L.z45
  have v45 := L.v45
  have mS : ∀ w, Sem.run P (method (P.types.size + 100) T rv "Swap") w = .ok (gs, rv) w := rS.finds
  have eS := rS.enters
  have H0 := Lib.hid h
  clear h
  go_enter L.f37, BodyGt.n37_ntmps ρ
  go_wp2
  go_loopg [6, 7] (b - a) (fun k s6 s7 wr => ∃ (i jn : Nat) (jz : Int) (dk : Array α), s6 = .int .i64 i ∧ s7 = .int .i64 jz ∧ ((i : Int) < jz → jz = jn ∧ jn < n) ∧ (¬ (i : Int) < jz → ¬ i < jn) ∧ jn - i ≤ k ∧ Hid (St dk wr ∧ Kept B w wr) ∧ Hid (reverseLoop i jn dk = reverseLoop a (b - 1) d))
  case atStart => exact ⟨a, b - 1, (b : Int) - 1, d, rfl, rfl, fun h => ⟨by omega, by omega⟩, fun h => by omega, by omega, ⟨H0.out, Kept.refl _ _⟩, rfl⟩
  case round =>
    obtain ⟨i, jn, jz, dk, rfl, rfl, h1, h2, hk, HS, HE⟩ := hrel
    by_cases hlt : (i : Int) < jz
    · obtain ⟨rfl, hjn⟩ := h1 hlt
      have hij : i < jn := by omega
      have hs := S.swapAt HS.out.1 (x := (i : Int)) (y := (jn : Int)) i jn rfl rfl (by omega) (by omega)
      clear h1 h2
      go_wp2_with (go_at_fn gs; refine hs.mono ?_; rintro e w4 ⟨rfl, h4, k4⟩)
      go_roundg (jn - 1 - (i + 1))
      case measure => omega
      case rel =>
        exact ⟨i + 1, jn - 1, (jn : Int) - 1, swp dk i jn, by simp, rfl, fun h => ⟨by omega, by omega⟩, fun h => by omega, Nat.le_refl _, ⟨h4, HS.out.2.trans k4⟩, (show _ = _ from by rw [← HE.out]; conv => rhs; rw [reverseLoop, if_pos hij])⟩
    · have hnot := h2 hlt
      go_wp2
      go_end0
      refine ⟨rfl, ?_, HS.out.2⟩
      rw [reverseRange, ← HE.out, reverseLoop, if_neg hnot]
      exact HS.out.1
end Go.Proofs.YtokehapgddicjaaGreatFmt
