/- sort.Sort's family over rows of any make: choosePivot, partitionEqual. -/
import Derived.Test.YtokehapgddicjaaGreatFmtSortB
import Derived.Sort.WalkC4
namespace Go.Proofs.YtokehapgddicjaaGreatFmt
open Go.Shelf Go.RowKit Go.Lib
open Go.Sort hiding Below
set_option linter.unusedVariables false
variable {P : Program} {ρ : Ren} {α : Type} [Inhabited α]
variable {T : TypeId} {rv : Value} {gl gs : Nat} {lt : α → α → Bool} {n B : Nat} {St : Array α → World → Prop}
/-- The three ways out of the switch on the count of swaps. -/
structure HintIs (s : Nat) (H : Int) : Prop where
  zero : (s : Int) = 0 → H = 1
  full : (s : Int) = 12 → H = 2
  other : ¬ (s : Int) = 0 → ¬ (s : Int) = 12 → H = 0
theorem hint_is (s : Nat) : ∃ H : Int, hintCode (hintOf s) = H ∧ HintIs s H := by
  refine ⟨_, rfl, fun h => ?_, fun h => ?_, fun h h2 => ?_⟩
  · obtain rfl : s = 0 := by omega
    rfl
  · obtain rfl : s = 12 := by omega
    rfl
  · unfold hintOf
    rw [if_neg (by omega), if_neg (by omega)]
    rfl
set_option maxHeartbeats 2000000 in
set_option maxRecDepth 100000 in
theorem pivot_any (L : LaysGt.n36 P ρ) (rL : Reaches P T rv "Less" gl) (S : Sorts P gl gs rv lt n B St) (a b : Nat) (W : World) (d : Array α) (h : St d W) (hab : a < b) (hb : b ≤ n) (hsz : n < 4611686018427387904) :
    Calls P (ρ.f 36) #[.iface T rv, .int .i64 a, .int .i64 b] W (fun e w' => e = .returned (.tuple #[.int .i64 (choosePivot lt d a b).1, .int .i64 (hintCode (choosePivot lt d a b).2)]) ∧ Below W.heap.size W w') := by
  have mixed := L.mixed
  have t0 := L.t0
  have a0 := L.a0
  have z0 := L.z0
  have v0 := L.v0
  have t3 := L.t3
  have a3 := L.a3
  have z3 := L.z3
  have v3 := L.v3
  have t4 := L.t4
  have a4 := L.a4
  have z4 := L.z4
  have v4 := L.v4
  have t26 := L.t26
  have a26 := L.a26
  have z26 := L.z26
  have v26 := L.v26
  have t38 := L.t38
  have a38 := L.a38
  have z38 := L.z38
  have v38 := L.v38
  have t43 := L.t43
  have a43 := L.a43
  have z43 := L.z43
  have v43 := L.v43
  have t45 := L.t45
  have a45 := L.a45
  have z45 := L.z45
  have v45 := L.v45
  have t60 := L.t60
  have a60 := L.a60
  have z60 := L.z60
  have v60 := L.v60
  have t71 := L.t71
  have a71 := L.a71
  have z71 := L.z71
  have v71 := L.v71
  have t74 := L.t74
  have a74 := L.a74
  have z74 := L.z74
  have v74 := L.v74
  have e46 : ∀ args w, (callFunc (ρ.f 46) args).run P w = .ok (.enter (ρ.f 46) args) w := enters_of L.f46 (by kernel_rfl) rfl
  have e47 : ∀ args w, (callFunc (ρ.f 47) args).run P w = .ok (.enter (ρ.f 47) args) w := enters_of L.f47 (by kernel_rfl) rfl
  rw [choosePivot_eq]
  have MA := fun (x s : Nat) (w : World) (hc : Cnt W s w) (h1 : 1 ≤ x) (h2 : x + 1 < n) (hs : s + 3 < 4611686018427387904) => medianAdjacent_any (P := P) (ρ := ρ) { L with } rL S W d h x s w hc h1 h2 hsz hs
  have MD := fun (x y z s : Nat) (w : World) (hc : Cnt W s w) (h1 : x < n) (h2 : y < n) (h3 : z < n) (hs : s + 3 < 4611686018427387904) => median_any (P := P) (ρ := ρ) { L with } rL S W d h x y z s w hc h1 h2 h3 hs
  have HMA := Lib.hid MA
  have HMD := Lib.hid MD
  clear MA MD h
  obtain ⟨I, hI⟩ : ∃ I : Nat, I = a + (b - a) / 4 * 1 := ⟨_, rfl⟩
  obtain ⟨J, hJ⟩ : ∃ J : Nat, J = a + (b - a) / 4 * 2 := ⟨_, rfl⟩
  obtain ⟨K, hK⟩ : ∃ K : Nat, K = a + (b - a) / 4 * 3 := ⟨_, rfl⟩
  have eI : ((a : Int) + ((b : Int) - (a : Int)) / 4) = (I : Int) := by omega
  have eJ : ((a : Int) + ((b : Int) - (a : Int)) / 4 * 2) = (J : Int) := by omega
  have eK : ((a : Int) + ((b : Int) - (a : Int)) / 4 * 3) = (K : Int) := by omega
  obtain ⟨p, s, hps⟩ : ∃ p s, rawPivot lt d a b = (p, s) := ⟨_, _, rfl⟩
  rw [hps]
  obtain ⟨H, hH, HI⟩ := hint_is s
  show Calls P (ρ.f 36) _ W (fun e w' => e = .returned (.tuple #[.int .i64 (p : Int), .int .i64 (hintCode (hintOf s))]) ∧ Below W.heap.size W w')
  rw [hH]
  clear hH
  unfold rawPivot at hps
  rw [← hI, ← hJ, ← hK] at hps
  have HB := Lib.hid (show I < n ∧ J < n ∧ K < n from ⟨by omega, by omega, by omega⟩)
  by_cases h8 : b - a ≥ 8
  · have h8z : (8 : Int) ≤ (b : Int) - (a : Int) := by omega
    rw [if_pos h8] at hps
    by_cases h50 : b - a ≥ 50
    · have h50z : (50 : Int) ≤ (b : Int) - (a : Int) := by omega
      rw [if_pos h50] at hps
      obtain ⟨i1, s1, h1⟩ : ∃ i1 s1, medianAdjacent lt d I 0 = (i1, s1) := ⟨_, _, rfl⟩
      obtain ⟨j1, s2, h2⟩ : ∃ j1 s2, medianAdjacent lt d J s1 = (j1, s2) := ⟨_, _, rfl⟩
      obtain ⟨k1, s3, h3⟩ : ∃ k1 s3, medianAdjacent lt d K s2 = (k1, s3) := ⟨_, _, rfl⟩
      simp only [h1, h2, h3] at hps
      have m1 := medianAdjacent_mem lt d I 0
      have m2 := medianAdjacent_mem lt d J s1
      have m3 := medianAdjacent_mem lt d K s2
      have n1 := medianAdjacent_count lt d I 0
      have n2 := medianAdjacent_count lt d J s1
      have n3 := medianAdjacent_count lt d K s2
      rw [h1] at m1 n1
      rw [h2] at m2 n2
      rw [h3] at m3 n3
      simp only [] at m1 m2 m3 n1 n2 n3
      have C1 := Lib.hid (fun (w : World) (hc : Cnt W 0 w) => HMA.out I 0 w hc (by omega) (by omega) (by omega))
      have C2 := Lib.hid (fun (w : World) (hc : Cnt W s1 w) => HMA.out J s1 w hc (by omega) (by omega) (by omega))
      have C3 := Lib.hid (fun (w : World) (hc : Cnt W s2 w) => HMA.out K s2 w hc (by omega) (by omega) (by omega))
      have C4 := Lib.hid (fun (w : World) (hc : Cnt W s3 w) => HMD.out i1 j1 k1 s3 w hc (by omega) (by omega) (by omega) (by omega))
      rw [h1] at C1
      rw [h2] at C2
      rw [h3] at C3
      rw [hps] at C4
      clear h1 h2 h3 hps m1 m2 m3 n1 n2 n3 hI hJ hK
      go_enter L.f36, BodyGt.n36_ntmps ρ
      go_wp2_with (first
        | (go_at_fn_of (ρ.f 46) (Value.int .i64 (I : Int)); refine (C1.out _ (Cnt.start W _)).mono ?_; rintro e w1 ⟨rfl, x1⟩)
        | (go_at_fn_of (ρ.f 46) (Value.int .i64 (J : Int)); refine (C2.out _ x1).mono ?_; rintro e w2 ⟨rfl, x2⟩)
        | (go_at_fn_of (ρ.f 46) (Value.int .i64 (K : Int)); refine (C3.out _ x2).mono ?_; rintro e w3 ⟨rfl, x3⟩)
        | (go_at_fn (ρ.f 47); refine (C4.out _ x3).mono ?_; rintro e w4 ⟨rfl, x4⟩; have c4 := x4.1; have X4 := Lib.hid x4; clear x4 x3 x2 x1))
      all_goals
        go_ret2
        refine ⟨?_, X4.out.2.2.1⟩
        first
          | (rw [HI.zero (eq_of_beq (a := (s : Int)) (b := 0) (by assumption))]; rfl)
          | (rw [HI.full (eq_of_beq (a := (s : Int)) (b := 12) (by assumption))]; rfl)
          | (rw [HI.other (ne_of_beq_false (a := (s : Int)) (b := 0) (by assumption)) (ne_of_beq_false (a := (s : Int)) (b := 12) (by assumption))]; rfl)
    · have h50z : ¬ (50 : Int) ≤ (b : Int) - (a : Int) := by omega
      rw [if_neg h50] at hps
      have C4 := Lib.hid (fun (w : World) (hc : Cnt W 0 w) => HMD.out I J K 0 w hc (by omega) (by omega) (by omega) (by omega))
      rw [hps] at C4
      clear hps hI hJ hK
      go_enter L.f36, BodyGt.n36_ntmps ρ
      go_wp2_with (go_at_fn (ρ.f 47); refine (C4.out _ (Cnt.start W _)).mono ?_; rintro e w4 ⟨rfl, x4⟩; have c4 := x4.1; have X4 := Lib.hid x4; clear x4)
      all_goals
        go_ret2
        refine ⟨?_, X4.out.2.2.1⟩
        first
          | (rw [HI.zero (eq_of_beq (a := (s : Int)) (b := 0) (by assumption))]; rfl)
          | (rw [HI.full (eq_of_beq (a := (s : Int)) (b := 12) (by assumption))]; rfl)
          | (rw [HI.other (ne_of_beq_false (a := (s : Int)) (b := 0) (by assumption)) (ne_of_beq_false (a := (s : Int)) (b := 12) (by assumption))]; rfl)
  · have h8z : ¬ (8 : Int) ≤ (b : Int) - (a : Int) := by omega
    rw [if_neg h8] at hps
    obtain ⟨rfl, rfl⟩ : J = p ∧ 0 = s := ⟨congrArg Prod.fst hps, congrArg Prod.snd hps⟩
    have X4 := Lib.hid (Cnt.start W (ρ.t 3))
    have e1 := HI.zero rfl
    clear hps hI hJ hK HI
    subst e1
    go_enter L.f36, BodyGt.n36_ntmps ρ
    go_wp2
    go_ret2
    exact ⟨rfl, X4.out.2.2.1⟩
end Go.Proofs.YtokehapgddicjaaGreatFmt
