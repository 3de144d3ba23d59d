/- sort.Sort's family over rows of any make: siftDown, heapSort, the pivot's choice. -/
import Derived.Test.YtokehapgddicjaaGreatFmtSortA
import Derived.Sort.Walk13
import Derived.Sort.WalkD1
namespace Go.Proofs.YtokehapgddicjaaGreatFmt
open Go.Shelf Go.RowKit Go.Lib
open Go.Sort hiding Below
set_option linter.unusedVariables false
variable {P : Program} {ρ : Ren} {α : Type} [Inhabited α]
variable {T : TypeId} {rv : Value} {gl gs : Nat} {lt : α → α → Bool} {n B : Nat} {St : Array α → World → Prop}
set_option maxHeartbeats 4000000 in
set_option maxRecDepth 1000000 in
theorem sift_any (L : LaysGt.n43 P ρ) (rL : Reaches P T rv "Less" gl) (rS : Reaches P T rv "Swap" gs) (S : Sorts P gl gs rv lt n B St) (lo hi first : Nat) (d : Array α) (w : World) (h : St d w) (hlo : lo ≤ hi) (hb : first + hi ≤ n) (hsz : n < 4611686018427387904) :
    Calls P (ρ.f 43) #[.iface T rv, .int .i64 lo, .int .i64 hi, .int .i64 first] w (fun e w' => e = .returned (.tuple #[]) ∧ St (siftDown lt hi first lo d) w' ∧ Kept B w w') := by
  have mixed := L.mixed
  have t0 := L.t0
  have a0 := L.a0
  have z0 := L.z0
  have v0 := L.v0
  have t3 := L.t3
  have a3 := L.a3
  have z3 := L.z3
  have v3 := L.v3
  have t4 := L.t4
  have a4 := L.a4
  have z4 := L.z4
  have v4 := L.v4
  have t26 := L.t26
  have a26 := L.a26
  have z26 := L.z26
  have v26 := L.v26
  have t38 := L.t38
  have a38 := L.a38
  have z38 := L.z38
  have v38 := L.v38
  have t43 := L.t43
  have a43 := L.a43
  have z43 := L.z43
  have v43 := L.v43
  have t45 := L.t45
  have a45 := L.a45
  have z45 := L.z45
  have v45 := L.v45
  have mL : ∀ w, Sem.run P (method (P.types.size + 100) T rv "Less") w = .ok (gl, rv) w := rL.finds
  have eL := rL.enters
  have mS : ∀ w, Sem.run P (method (P.types.size + 100) T rv "Swap") w = .ok (gs, rv) w := rS.finds
  have eS := rS.enters
  have H0 := Lib.hid h
  clear h
  go_enter L.f43, BodyGt.n43_ntmps ρ
  go_wp2
  go_loopg [8] (hi - lo) (fun kx s8 wr => ∃ (root : Nat) (dk : Array α), s8 = .int .i64 root ∧ root ≤ hi ∧ hi - root ≤ kx ∧ Hid (St dk wr ∧ Kept B w wr) ∧ Hid (siftDown lt hi first root dk = siftDown lt hi first lo d))
  case atStart => exact ⟨lo, d, rfl, hlo, Nat.le_refl _, ⟨H0.out, Kept.refl _ _⟩, rfl⟩
  case round =>
    obtain ⟨root, dk, rfl, hr, hkx, HS, HE⟩ := hrel
    by_cases h0 : hi ≤ 2 * root + 1
    · have h0z : (hi : Int) ≤ 2 * (root : Int) + 1 := by omega
      go_wp2
      go_end0
      exact ⟨rfl, by rw [← HE.out, sd_end lt dk h0]; exact HS.out.1, HS.out.2⟩
    · have h0z : ¬ ((hi : Int) ≤ 2 * (root : Int) + 1) := by omega
      by_cases h1 : 2 * root + 2 < hi
      · have h1z : 2 * (root : Int) + 1 + 1 < (hi : Int) := by omega
        cases hL : lt dk[first + (2 * root + 1)]! dk[first + (2 * root + 2)]! with
        | true =>
          cases hG : lt dk[first + root]! dk[first + (2 * root + 2)]! with
          | true =>
            go_wp2_with (first
              | (go_at_fn gl; refine (S.lessAt (d := dk) HS.out.1 (first + (2 * root + 1)) (first + (2 * root + 2)) (by omega) (by omega) (by omega) (by omega) true hL).mono ?_; rintro e w1 ⟨rfl, h1, k1⟩)
              | (go_at_fn gl; refine (S.lessAt (d := dk) h1 (first + root) (first + (2 * root + 2)) (by omega) (by omega) (by omega) (by omega) true hG).mono ?_; rintro e w2 ⟨rfl, h2, k2⟩)
              | (go_at_fn gs; refine (S.swapAt (d := dk) h2 (first + root) (first + (2 * root + 2)) (by omega) (by omega) (by omega) (by omega)).mono ?_; rintro e w3 ⟨rfl, h3, k3⟩))
            go_roundg (hi - (2 * root + 2))
            case measure => omega
            case rel => exact ⟨2 * root + 2, swp dk (first + root) (first + (2 * root + 2)), by go_num, by omega, Nat.le_refl _, ⟨h3, ((HS.out.2.trans k1).trans k2).trans k3⟩, (show Hid _ from by rw [← HE.out, sd_right_go lt dk ‹_› hL hG]; exact rfl)⟩
          | false =>
            go_wp2_with (first
              | (go_at_fn gl; refine (S.lessAt (d := dk) HS.out.1 (first + (2 * root + 1)) (first + (2 * root + 2)) (by omega) (by omega) (by omega) (by omega) true hL).mono ?_; rintro e w1 ⟨rfl, h1, k1⟩)
              | (go_at_fn gl; refine (S.lessAt (d := dk) h1 (first + root) (first + (2 * root + 2)) (by omega) (by omega) (by omega) (by omega) false hG).mono ?_; rintro e w2 ⟨rfl, h2, k2⟩))
            (try simp only [Exit.inBlock, Exit.then]); refine bodyPost_ret (results_none rfl _ _ _) rfl ?_
            exact ⟨rfl, by rw [← HE.out, sd_right_stop lt dk ‹_› hL hG]; exact h2, (HS.out.2.trans k1).trans k2⟩
        | false =>
          cases hG : lt dk[first + root]! dk[first + (2 * root + 1)]! with
          | true =>
            go_wp2_with (first
              | (go_at_fn gl; refine (S.lessAt (d := dk) HS.out.1 (first + (2 * root + 1)) (first + (2 * root + 2)) (by omega) (by omega) (by omega) (by omega) false hL).mono ?_; rintro e w1 ⟨rfl, h1, k1⟩)
              | (go_at_fn gl; refine (S.lessAt (d := dk) h1 (first + root) (first + (2 * root + 1)) (by omega) (by omega) (by omega) (by omega) true hG).mono ?_; rintro e w2 ⟨rfl, h2, k2⟩)
              | (go_at_fn gs; refine (S.swapAt (d := dk) h2 (first + root) (first + (2 * root + 1)) (by omega) (by omega) (by omega) (by omega)).mono ?_; rintro e w3 ⟨rfl, h3, k3⟩))
            go_roundg (hi - (2 * root + 1))
            case measure => omega
            case rel => exact ⟨2 * root + 1, swp dk (first + root) (first + (2 * root + 1)), by go_num, by omega, Nat.le_refl _, ⟨h3, ((HS.out.2.trans k1).trans k2).trans k3⟩, (show Hid _ from by rw [← HE.out, sd_left_go lt dk (by omega) (fun _ => hL) hG]; exact rfl)⟩
          | false =>
            go_wp2_with (first
              | (go_at_fn gl; refine (S.lessAt (d := dk) HS.out.1 (first + (2 * root + 1)) (first + (2 * root + 2)) (by omega) (by omega) (by omega) (by omega) false hL).mono ?_; rintro e w1 ⟨rfl, h1, k1⟩)
              | (go_at_fn gl; refine (S.lessAt (d := dk) h1 (first + root) (first + (2 * root + 1)) (by omega) (by omega) (by omega) (by omega) false hG).mono ?_; rintro e w2 ⟨rfl, h2, k2⟩))
            (try simp only [Exit.inBlock, Exit.then]); refine bodyPost_ret (results_none rfl _ _ _) rfl ?_
            exact ⟨rfl, by rw [← HE.out, sd_left_stop lt dk (by omega) (fun _ => hL) hG]; exact h2, (HS.out.2.trans k1).trans k2⟩
      · have h1z : ¬ (2 * (root : Int) + 1 + 1 < (hi : Int)) := by omega
        cases hG : lt dk[first + root]! dk[first + (2 * root + 1)]! with
        | true =>
          go_wp2_with (first
            | (go_at_fn gl; refine (S.lessAt (d := dk) HS.out.1 (first + root) (first + (2 * root + 1)) (by omega) (by omega) (by omega) (by omega) true hG).mono ?_; rintro e w2 ⟨rfl, h2, k2⟩)
            | (go_at_fn gs; refine (S.swapAt (d := dk) h2 (first + root) (first + (2 * root + 1)) (by omega) (by omega) (by omega) (by omega)).mono ?_; rintro e w3 ⟨rfl, h3, k3⟩))
          go_roundg (hi - (2 * root + 1))
          case measure => omega
          case rel => exact ⟨2 * root + 1, swp dk (first + root) (first + (2 * root + 1)), by go_num, by omega, Nat.le_refl _, ⟨h3, (HS.out.2.trans k2).trans k3⟩, (show Hid _ from by rw [← HE.out, sd_left_go lt dk (by omega) (fun h => absurd h h1) hG]; exact rfl)⟩
        | false =>
          go_wp2_with (go_at_fn gl; refine (S.lessAt (d := dk) HS.out.1 (first + root) (first + (2 * root + 1)) (by omega) (by omega) (by omega) (by omega) false hG).mono ?_; rintro e w2 ⟨rfl, h2, k2⟩)
          (try simp only [Exit.inBlock, Exit.then]); refine bodyPost_ret (results_none rfl _ _ _) rfl ?_
          exact ⟨rfl, by rw [← HE.out, sd_left_stop lt dk (by omega) (fun h => absurd h h1) hG]; exact h2, HS.out.2.trans k2⟩
set_option maxHeartbeats 4000000 in
set_option maxRecDepth 1000000 in
theorem heap_any (L : LaysGt.n34 P ρ) (rL : Reaches P T rv "Less" gl) (rS : Reaches P T rv "Swap" gs) (S : Sorts P gl gs rv lt n B St) (a b : Nat) (d : Array α) (w : World) (h : St d w) (hab : a ≤ b) (hb : b ≤ n) (hsz : n < 4611686018427387904) :
    Calls P (ρ.f 34) #[.iface T rv, .int .i64 a, .int .i64 b] w (fun e w' => e = .returned (.tuple #[]) ∧ St (heapSort lt d a b) w' ∧ Kept B w w') := by
  have mixed := L.mixed
  have t0 := L.t0
  have a0 := L.a0
  have z0 := L.z0
  have v0 := L.v0
  have t3 := L.t3
  have a3 := L.a3
  have z3 := L.z3
  have v3 := L.v3
  have t4 := L.t4
  have a4 := L.a4
  have z4 := L.z4
  have v4 := L.v4
  have t26 := L.t26
  have a26 := L.a26
  have z26 := L.z26
  have v26 := L.v26
  have t38 := L.t38
  have a38 := L.a38
  have z38 := L.z38
  have v38 := L.v38
  have t43 := L.t43
  have a43 := L.a43
  have z43 := L.z43
  have v43 := L.v43
  have t45 := L.t45
  have a45 := L.a45
  have z45 := L.z45
  have v45 := L.v45
  have mL : ∀ w, Sem.run P (method (P.types.size + 100) T rv "Less") w = .ok (gl, rv) w := rL.finds
  have eL := rL.enters
  have mS : ∀ w, Sem.run P (method (P.types.size + 100) T rv "Swap") w = .ok (gs, rv) w := rS.finds
  have eS := rS.enters
  have e43 : ∀ args w, (callFunc (ρ.f 43) args).run P w = .ok (.enter (ρ.f 43) args) w := enters_of L.f43 (by kernel_rfl) rfl
  have ecast : ((b - a : Nat) : Int) = (b : Int) - (a : Int) := by omega
  have H0 := Lib.hid h
  clear h
  go_enter L.f34, BodyGt.n34_ntmps ρ
  go_wp2
  go_loopg [9] ((b - a - 1) / 2 + 1) (fun kx s9 wr => s9 = .int .i64 ((kx : Int) - 1) ∧ kx ≤ (b - a - 1) / 2 + 1 ∧ ∃ (dk : Array α), Hid (St dk wr ∧ Kept B w wr) ∧ Hid (heapBuild lt (b - a) a kx dk = heapBuild lt (b - a) a ((b - a - 1) / 2 + 1) d))
  case atStart => exact ⟨by rw [half_start hab], Nat.le_refl _, d, ⟨H0.out, Kept.refl _ _⟩, rfl⟩
  case round =>
    obtain ⟨rfl, hkk, dk, HS, HE⟩ := hrel
    cases gk with
    | zero =>
      have hB : dk = heapBuild lt (b - a) a ((b - a - 1) / 2 + 1) d := HE.out
      clear HE hkk
      have HB := Lib.hid hB
      clear hB
      go_wp2
      go_loopg [10] (b - a) (fun kx s10 wr2 => s10 = .int .i64 ((kx : Int) - 1) ∧ kx ≤ b - a ∧ ∃ (dj : Array α), Hid (St dj wr2 ∧ Kept B w wr2) ∧ Hid (heapPop lt a kx dj = heapPop lt a (b - a) dk))
      case atStart => exact ⟨by rw [ecast], Nat.le_refl _, dk, HS, rfl⟩
      case round =>
        clear HS
        obtain ⟨rfl, hkk, dj, HS, HE2⟩ := hrel
        cases gk with
        | zero =>
          go_wp2
          go_end0
          have e : dj = heapSort lt d a b := by rw [heapSort, ← HB.out, ← HE2.out]; rfl
          rw [← e]
          exact ⟨rfl, HS.out⟩
        | succ kx =>
          go_wp2_with (first
            | (go_at_fn gs; refine (S.swapAt (d := dj) HS.out.1 a (a + kx) (by omega) (by omega) (by omega) (by omega)).mono ?_; rintro e w1 ⟨rfl, h1, k1⟩)
            | (go_at_fn (ρ.f 43); refine (sift_any (P := P) (ρ := ρ) { L with } rL rS S 0 kx a (swp dj a (a + kx)) _ h1 (Nat.zero_le _) (by omega) hsz).mono ?_; rintro e w2 ⟨rfl, h2, k2⟩))
          go_roundg kx
          case measure => omega
          case rel => exact ⟨by simp, by omega, siftDown lt kx a 0 (swp dj a (a + kx)), ⟨h2, (HS.out.2.trans k1).trans k2⟩, HE2⟩
    | succ kx =>
      have hcall := sift_any (P := P) (ρ := ρ) { L with } rL rS S kx (b - a) a dk wr HS.out.1 (by omega) (by omega) hsz
      rw [ecast] at hcall
      go_wp2_with (go_at_fn (ρ.f 43); refine hcall.mono ?_; rintro e w1 ⟨rfl, h1, k1⟩)
      go_roundg kx
      case measure => omega
      case rel => exact ⟨by simp, by omega, siftDown lt (b - a) a kx dk, ⟨h1, HS.out.2.trans k1⟩, HE⟩
/-- The counter of a pivot's choice, laid at the end of the world W; nothing else is turned. -/
def Cnt (W : World) (s : Nat) (w : World) : Prop := w.cell? ⟨W.heap.size, 0, none⟩ = some (.int .i64 s) ∧ w.frozen? ⟨W.heap.size, 0, none⟩ = false ∧ Below W.heap.size W w ∧ W.heap.size < w.heap.size
theorem Cnt.start (W : World) (t : TypeId) : Cnt W 0 (W.alloc (.cells #[.int .i64 0] t)) :=
  ⟨by rw [World.cell?_alloc_at _ _ _ _ rfl]; rfl, World.frozen?_alloc_at _ _ _ _ rfl, (Below.refl _ _).alloc (Nat.le_refl _) _, by simp⟩
theorem Cnt.below {W w w' : World} {s : Nat} (h : Cnt W s w) (hb : Below w.heap.size w w') : Cnt W s w' :=
  ⟨(hb.cell (p := ⟨W.heap.size, 0, none⟩) h.2.2.2).trans h.1, (hb.frozen (p := ⟨W.heap.size, 0, none⟩) h.2.2.2).trans h.2.1, h.2.2.1.trans (hb.mono h.2.2.1.size), Nat.lt_of_lt_of_le h.2.2.2 hb.size⟩
theorem Cnt.set {W w : World} {s : Nat} (h : Cnt W s w) (t : Nat) : Cnt W t (w.setCell ⟨W.heap.size, 0, none⟩ (.int .i64 t)) :=
  ⟨World.cell?_setCell_same _ _ _ h.1, by simpa using h.2.1, h.2.2.1.setCell (Nat.le_refl _) _, by simpa [World.setCell] using h.2.2.2⟩
theorem less_at {W : World} (S : Sorts P gl gs rv lt n B St) {d : Array α} {w : World} {s : Nat} (h : St d W) (hc : Cnt W s w) {x y : Int} (i j : Nat) (hx : x = i) (hy : y = j) (hi : i < n) (hj : j < n) (v : Bool) (hv : lt d[i]! d[j]! = v) :
    Calls P gl #[rv, .int .i64 x, .int .i64 y] w (fun e w' => e = .returned (.bool v) ∧ Cnt W s w') := by
  subst hx hy hv
  exact (S.less d w (S.after h hc.2.2.1) i j hi hj).mono fun _ _ ⟨he, hb⟩ => ⟨he, hc.below hb⟩
set_option maxHeartbeats 1000000 in
set_option maxRecDepth 100000 in
theorem order2_any (L : LaysGt.n50 P ρ) (rL : Reaches P T rv "Less" gl) (S : Sorts P gl gs rv lt n B St) (W : World) (d : Array α) (h : St d W) (a b s : Nat) (w : World) (hc : Cnt W s w) (ha : a < n) (hb : b < n) (hs : s < 4611686018427387904) :
    Calls P (ρ.f 50) #[.iface T rv, .int .i64 a, .int .i64 b, .pointer (some ⟨W.heap.size, 0, none⟩)] w (fun e w' => e = .returned (.tuple #[.int .i64 (order2 lt d a b s).1, .int .i64 (order2 lt d a b s).2.1]) ∧ Cnt W (order2 lt d a b s).2.2 w') := by
  have mixed := L.mixed
  have t0 := L.t0
  have a0 := L.a0
  have z0 := L.z0
  have v0 := L.v0
  have t3 := L.t3
  have a3 := L.a3
  have z3 := L.z3
  have v3 := L.v3
  have t4 := L.t4
  have a4 := L.a4
  have z4 := L.z4
  have v4 := L.v4
  have t26 := L.t26
  have a26 := L.a26
  have z26 := L.z26
  have v26 := L.v26
  have t38 := L.t38
  have a38 := L.a38
  have z38 := L.z38
  have v38 := L.v38
  have t43 := L.t43
  have a43 := L.a43
  have z43 := L.z43
  have v43 := L.v43
  have t45 := L.t45
  have a45 := L.a45
  have z45 := L.z45
  have v45 := L.v45
  have t71 := L.t71
  have a71 := L.a71
  have z71 := L.z71
  have v71 := L.v71
  have mL : ∀ w, Sem.run P (method (P.types.size + 100) T rv "Less") w = .ok (gl, rv) w := rL.finds
  have eL := rL.enters
  have HH := Lib.hid (And.intro h hc)
  clear h hc
  cases hlv : lt d[b]! d[a]! with
  | true =>
    have e2 : order2 lt d a b s = (b, a, s + 1) := by simp [order2, hlv]
    have hl := less_at S HH.out.1 HH.out.2 b a rfl rfl hb ha true hlv
    rw [e2]
    go_enter L.f50, BodyGt.n50_ntmps ρ
    go_wp2_with (go_at_fn gl; refine hl.mono ?_; rintro e w1 ⟨rfl, h1⟩; have c1 := h1.1; have f1 := h1.2.1; have H1 := Lib.hid h1; clear h1)
    go_ret2
    exact ⟨rfl, H1.out.set (s + 1)⟩
  | false =>
    have e2 : order2 lt d a b s = (a, b, s) := by simp [order2, hlv]
    have hl := less_at S HH.out.1 HH.out.2 b a rfl rfl hb ha false hlv
    rw [e2]
    go_enter L.f50, BodyGt.n50_ntmps ρ
    go_wp2_with (go_at_fn gl; refine hl.mono ?_; rintro e w1 ⟨rfl, h1⟩; have H1 := Lib.hid h1; clear h1)
    go_ret2
    exact ⟨rfl, H1.out⟩
theorem order2_in (lt : α → α → Bool) (d : Array α) {a b n : Nat} (s : Nat) (ha : a < n) (hb : b < n) : (order2 lt d a b s).1 < n ∧ (order2 lt d a b s).2.1 < n := by
  unfold order2; split <;> exact ⟨by assumption, by assumption⟩
theorem order2_up (lt : α → α → Bool) (d : Array α) (a b s : Nat) : (order2 lt d a b s).2.2 ≤ s + 1 := by
  unfold order2; split <;> simp
set_option maxHeartbeats 1000000 in
set_option maxRecDepth 100000 in
theorem median_any (L : LaysGt.n47 P ρ) (rL : Reaches P T rv "Less" gl) (S : Sorts P gl gs rv lt n B St) (W : World) (d : Array α) (h : St d W) (a b c s : Nat) (w : World) (hc : Cnt W s w) (ha : a < n) (hb : b < n) (hcn : c < n) (hs : s + 3 < 4611686018427387904) :
    Calls P (ρ.f 47) #[.iface T rv, .int .i64 a, .int .i64 b, .int .i64 c, .pointer (some ⟨W.heap.size, 0, none⟩)] w (fun e w' => e = .returned (.int .i64 (median lt d a b c s).1) ∧ Cnt W (median lt d a b c s).2 w') := by
  have mixed := L.mixed
  have t0 := L.t0
  have a0 := L.a0
  have z0 := L.z0
  have v0 := L.v0
  have t3 := L.t3
  have a3 := L.a3
  have z3 := L.z3
  have v3 := L.v3
  have t4 := L.t4
  have a4 := L.a4
  have z4 := L.z4
  have v4 := L.v4
  have t26 := L.t26
  have a26 := L.a26
  have z26 := L.z26
  have v26 := L.v26
  have t38 := L.t38
  have a38 := L.a38
  have z38 := L.z38
  have v38 := L.v38
  have t43 := L.t43
  have a43 := L.a43
  have z43 := L.z43
  have v43 := L.v43
  have t45 := L.t45
  have a45 := L.a45
  have z45 := L.z45
  have v45 := L.v45
  have t71 := L.t71
  have a71 := L.a71
  have z71 := L.z71
  have v71 := L.v71
  have t74 := L.t74
  have a74 := L.a74
  have z74 := L.z74
  have v74 := L.v74
  have e50 : ∀ args w, (callFunc (ρ.f 50) args).run P w = .ok (.enter (ρ.f 50) args) w := enters_of L.f50 (by kernel_rfl) rfl
  have l1 := order2_in lt d s ha hb
  have s1 := order2_up lt d a b s
  have l2 := order2_in lt d (order2 lt d a b s).2.2 l1.2 hcn
  have s2 := order2_up lt d (order2 lt d a b s).2.1 c (order2 lt d a b s).2.2
  have step := fun (a' b' t : Nat) (wx : World) (hx : Cnt W t wx) (h1 : a' < n) (h2 : b' < n) (h3 : t < 4611686018427387904) => order2_any (P := P) (ρ := ρ) { L with } rL S W d h a' b' t wx hx h1 h2 h3
  have HC := Lib.hid hc
  have HST := Lib.hid step
  clear hc step h
  go_enter L.f47, BodyGt.n47_ntmps ρ
  go_wp2_with (go_at_fn_of (ρ.f 50) (Value.int .i64 (b : Int)); refine (HST.out a b s _ HC.out ha hb (by omega)).mono ?_; rintro e w1 ⟨rfl, h1⟩)
  have H1 := Lib.hid h1
  clear h1
  go_wp2_with (go_at_fn_of (ρ.f 50) (Value.int .i64 (c : Int)); refine (HST.out _ c _ _ H1.out l1.2 hcn (by omega)).mono ?_; rintro e w2 ⟨rfl, h2⟩)
  have H2 := Lib.hid h2
  clear h2
  go_wp2_with (go_at_fn_of (ρ.f 50) (Value.int .i64 ((order2 lt d a b s).1 : Int)); refine (HST.out _ _ _ _ H2.out l1.1 l2.1 (by omega)).mono ?_; rintro e w3 ⟨rfl, h3⟩)
  go_ret
  exact ⟨rfl, h3⟩
set_option maxHeartbeats 1000000 in
set_option maxRecDepth 100000 in
theorem medianAdjacent_any (L : LaysGt.n46 P ρ) (rL : Reaches P T rv "Less" gl) (S : Sorts P gl gs rv lt n B St) (W : World) (d : Array α) (h : St d W) (a s : Nat) (w : World) (hc : Cnt W s w) (ha1 : 1 ≤ a) (ha2 : a + 1 < n) (hsz : n < 4611686018427387904) (hs : s + 3 < 4611686018427387904) :
    Calls P (ρ.f 46) #[.iface T rv, .int .i64 a, .pointer (some ⟨W.heap.size, 0, none⟩)] w (fun e w' => e = .returned (.int .i64 (medianAdjacent lt d a s).1) ∧ Cnt W (medianAdjacent lt d a s).2 w') := by
  have mixed := L.mixed
  have t0 := L.t0
  have a0 := L.a0
  have z0 := L.z0
  have v0 := L.v0
  have t3 := L.t3
  have a3 := L.a3
  have z3 := L.z3
  have v3 := L.v3
  have t4 := L.t4
  have a4 := L.a4
  have z4 := L.z4
  have v4 := L.v4
  have t26 := L.t26
  have a26 := L.a26
  have z26 := L.z26
  have v26 := L.v26
  have t38 := L.t38
  have a38 := L.a38
  have z38 := L.z38
  have v38 := L.v38
  have t43 := L.t43
  have a43 := L.a43
  have z43 := L.z43
  have v43 := L.v43
  have t45 := L.t45
  have a45 := L.a45
  have z45 := L.z45
  have v45 := L.v45
  have t71 := L.t71
  have a71 := L.a71
  have z71 := L.z71
  have v71 := L.v71
  have t74 := L.t74
  have a74 := L.a74
  have z74 := L.z74
  have v74 := L.v74
  have e47 : ∀ args w, (callFunc (ρ.f 47) args).run P w = .ok (.enter (ρ.f 47) args) w := enters_of L.f47 (by kernel_rfl) rfl
  have hm := median_any (P := P) (ρ := ρ) { L with } rL S W d h (a - 1) a (a + 1) s w hc (by omega) (by omega) ha2 hs
  rw [show ((a - 1 : Nat) : Int) = (a : Int) - 1 by omega, show ((a + 1 : Nat) : Int) = (a : Int) + 1 by omega] at hm
  clear h hc
  go_enter L.f46, BodyGt.n46_ntmps ρ
  go_wp2_with (go_at_fn (ρ.f 47); refine hm.mono ?_; rintro e w1 ⟨rfl, h1⟩)
  go_ret
  exact ⟨rfl, h1⟩
end Go.Proofs.YtokehapgddicjaaGreatFmt
