/- The pairs of mangleLocalCSS, read by symbol. -/
import Derived.Test.YtokehapgddicjaaGreatFmtB6m
namespace Go.Proofs.YtokehapgddicjaaGreatFmt
open Go.RowKit
set_option linter.unusedVariables false
set_option linter.unusedSimpArgs false
theorem pair_order {ps : List (Nat × Nat)} {R : (Nat × Nat) → (Nat × Nat) → Prop} (h : ps.Pairwise R) {p q : Nat × Nat} (hp : p ∈ ps) (hq : q ∈ ps) (hne : p ≠ q) : R p q ∨ R q p := by
  induction h with
  | nil => cases hp
  | @cons a l h1 h2 ih =>
    rcases List.mem_cons.1 hp with e1 | p1
    · rcases List.mem_cons.1 hq with e2 | q1
      · exact absurd (e1.trans e2.symm) hne
      · exact Or.inl (e1 ▸ h1 _ q1)
    · rcases List.mem_cons.1 hq with e2 | q1
      · exact Or.inr (e2 ▸ h1 _ p1)
      · exact ih p1 q1
/-- What each local symbol gets: J i is its number. -/
structure Named (S : Nat → ByteArray) (B : Nat → Bool) (C : Nat → Int) (U : List ByteArray) (n : Nat) (f : Value → Option Value) (J : Nat → Nat) : Prop where
  loc : ∀ i, i < n → B i = false → f (ref i) = some (.string (nm (J i)))
  glo : ∀ i, i < n → B i = true → f (ref i) = none
  fresh : ∀ i, i < n → B i = false → nm (J i) ∉ globs S B n ∧ nm (J i) ∉ U
  short : ∀ i, i < n → B i = false → (nm (J i)).size ≤ 1048576
  apart : ∀ i j, i < n → j < n → B i = false → B j = false → i ≠ j → nm (J i) ≠ nm (J j)
  order : ∀ i j, i < n → j < n → B i = false → B j = false → C i > C j → (nm (J i)).size ≤ (nm (J j)).size
open Classical in
theorem named_of {S : Nat → ByteArray} {B : Nat → Bool} {C : Nat → Int} {U : List ByteArray} {ps : List (Nat × Nat)} {d : List Nat} {n : Nat} (hp : d.Perm (locs B n)) (hw : d.Pairwise (fun x y => ltS C y x = false)) (hf : ps.map (fun p => p.1) = d) (hs : ps.Pairwise (fun a b => a.2 < b.2)) (hg : ∀ p ∈ ps, nm p.2 ∉ globs S B n ∧ nm p.2 ∉ U) (hl : ∀ p ∈ ps, p.2 ≤ 1099511627776) :
    ∃ J : Nat → Nat, Named S B C U n (puts (fun _ => none) ps) J := by
  have hnd : (ps.map (fun p => p.1)).Nodup := by
    rw [hf]
    have h1 := locs_nodup B n
    exact hp.nodup_iff.2 (List.Pairwise.of_map ref (fun a b h e => h (by rw [e])) h1)
  have hmem : ∀ i, i < n → B i = false → ∃ j, (i, j) ∈ ps := by
    intro i hi hb
    have h1 : i ∈ locs B n := List.mem_filter.2 ⟨List.mem_range.2 hi, by simp [hb]⟩
    have h2 := hp.mem_iff.2 h1
    rw [← hf] at h2
    obtain ⟨p, hp1, rfl⟩ := List.mem_map.1 h2
    exact ⟨p.2, hp1⟩
  have hJ : ∃ J : Nat → Nat, ∀ i, i < n → B i = false → (i, J i) ∈ ps := by
    refine ⟨fun i => if h : ∃ j, (i, j) ∈ ps then h.choose else 0, fun i hi hb => ?_⟩
    have h1 := hmem i hi hb
    simp only [h1, dif_pos]
    exact h1.choose_spec
  obtain ⟨J, hJ⟩ := hJ
  have hw2 : ps.Pairwise (fun p q => ltS C q.1 p.1 = false) := by
    rw [← hf] at hw
    exact List.pairwise_map.1 hw
  have hall := hs.and hw2
  refine ⟨J, ⟨fun i hi hb => puts_mem _ _ hnd _ _ (hJ i hi hb), fun i hi hb => puts_not _ _ _ (fun j hj => ?_), fun i hi hb => hg _ (hJ i hi hb), fun i hi hb => nm_short (hl _ (hJ i hi hb)), fun i j hi hj hbi hbj hne e => ?_, fun i j hi hj hbi hbj hc => ?_⟩⟩
  · have h1 : i ∈ d := by rw [← hf]; exact List.mem_map.2 ⟨_, hj, rfl⟩
    have h2 := (List.mem_filter.1 (hp.mem_iff.1 h1)).2
    rw [hb] at h2
    cases h2
  · have e := nm_inj e
    have h1 := pair_order hs (hJ i hi hbi) (hJ j hj hbj) (fun e => hne (congrArg Prod.fst e))
    simp only at h1
    omega
  · have h1 := pair_order hall (hJ i hi hbi) (hJ j hj hbj) (fun e => by have e := congrArg Prod.fst e; simp only at e; subst e; omega)
    simp only at h1
    have h2 : ltS C i j = true := by simp [ltS, hc]
    rcases h1 with h1 | h1
    · exact nm_len (by omega)
    · rw [h2] at h1
      exact absurd h1.2 (by decide)
end Go.Proofs.YtokehapgddicjaaGreatFmt
