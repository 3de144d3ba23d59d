/- The third loop of mangleLocalCSS, in plain words: each local gets the next free name. -/
import Derived.Test.YtokehapgddicjaaGreatFmtB6h
namespace Go.Proofs.YtokehapgddicjaaGreatFmt
open Go.RowKit
set_option linter.unusedVariables false
set_option linter.unusedSimpArgs false
/-- The text of the number j. -/
def nm (j : Nat) : ByteArray := mnameB cssHead cssTail j
theorem headL_nodup : headL.Nodup := by decide +kernel
theorem tailL_nodup : tailL.Nodup := by decide +kernel
theorem nm_inj {i j : Nat} (h : nm i = nm j) : i = j := by
  have h1 : mname headL tailL i = mname headL tailL j := by
    have h2 := congrArg (fun b : ByteArray => b.data.toList) h
    exact h2
  exact mname_inj headL_nodup tailL_nodup (by decide +kernel) (by decide +kernel) h1
theorem nm_size (j : Nat) : (nm j).size = (mname headL tailL j).length := rfl
theorem nm_pos (j : Nat) : 0 < (nm j).size := by
  rw [nm_size]
  exact Nat.succ_pos _
theorem nm_len {i j : Nat} (h : i ≤ j) : (nm i).size ≤ (nm j).size := by
  rw [nm_size, nm_size]
  exact mname_len h
theorem mtail_short {T : List UInt8} (h2 : 2 ≤ T.length) : ∀ k i, i < 2 ^ k → (mtail T i).length ≤ k := by
  intro k
  induction k with
  | zero =>
    intro i hi
    obtain rfl : i = 0 := by simpa using hi
    rw [mtail_zero]
    exact Nat.le_refl _
  | succ k ih =>
    intro i hi
    cases i with
    | zero => rw [mtail_zero]; exact Nat.zero_le _
    | succ i =>
      rw [mtail_succ, List.length_cons]
      refine Nat.succ_le_succ (ih _ ?_)
      have h3 : i / T.length ≤ i / 2 := Nat.div_le_div_left h2 (by decide)
      rw [Nat.pow_succ] at hi
      omega
theorem nm_short {j : Nat} (h : j ≤ 1099511627776) : (nm j).size ≤ 1048576 := by
  rw [nm_size]
  have h1 : (mtail tailL (j / headL.length)).length ≤ 41 := mtail_short (by decide +kernel) 41 _ (Nat.lt_of_le_of_lt (Nat.div_le_self _ _) (by omega))
  have h2 : (mname headL tailL j).length = (mtail tailL (j / headL.length)).length + 1 := rfl
  omega
/-- The map with the names of the pairs (symbol, number) put in. -/
noncomputable def puts (f : Value → Option Value) (ps : List (Nat × Nat)) : Value → Option Value := ps.foldl (fun f p => upd f (ref p.1) (.string (nm p.2))) f
theorem puts_snoc (f : Value → Option Value) (ps : List (Nat × Nat)) (i j : Nat) : puts f (ps ++ [(i, j)]) = upd (puts f ps) (ref i) (.string (nm j)) := by
  simp [puts]
theorem puts_not (f : Value → Option Value) (ps : List (Nat × Nat)) (i : Nat) (h : ∀ j, (i, j) ∉ ps) : puts f ps (ref i) = f (ref i) := by
  induction ps generalizing f with
  | nil => rfl
  | cons p ps ih =>
    have h1 : puts f (p :: ps) = puts (upd f (ref p.1) (.string (nm p.2))) ps := rfl
    rw [h1, ih _ (fun j hj => h j (List.mem_cons_of_mem _ hj)), upd_other]
    intro e
    have e := ref_inj e
    exact h p.2 (by rw [e]; exact List.mem_cons_self)
theorem puts_mem (f : Value → Option Value) (ps : List (Nat × Nat)) (hn : (ps.map (fun p => p.1)).Nodup) (i j : Nat) (h : (i, j) ∈ ps) : puts f ps (ref i) = some (.string (nm j)) := by
  induction ps generalizing f with
  | nil => cases h
  | cons p ps ih =>
    have h1 : puts f (p :: ps) = puts (upd f (ref p.1) (.string (nm p.2))) ps := rfl
    rw [List.map_cons, List.nodup_cons] at hn
    rw [h1]
    rcases List.mem_cons.1 h with rfl | h2
    · rw [puts_not, upd_same]
      intro k hk
      exact hn.1 (List.mem_map.2 ⟨_, hk, rfl⟩)
    · exact ih _ hn.2 h2
/-- Behind k names: ps are the pairs (symbol, number), m the number of the last, u what the map of used names holds. -/
structure Mint (W : World) (mp um : Nat) (f0 : Value → Option Value) (U G : List ByteArray) (d : List Nat) (k m : Nat) (ps : List (Nat × Nat)) (u : Value → Option Value) (w : World) : Prop where
  near : Near mp um W w
  bound : m ≤ k * 1056768
  fsts : ps.map (fun p => p.1) = d.take k
  snds : ps.Pairwise (fun a b => a.2 < b.2)
  free : ∀ p ∈ ps, p.2 ≤ m ∧ nm p.2 ∉ G ∧ nm p.2 ∉ U
  props : MapIs Tryz.prog 44 w mp (puts f0 ps)
  used : MapIs Tryz.prog 9 w um u
  set : SetIs u (ps.map (fun p => nm p.2) ++ U)
theorem Mint.below {W : World} {mp um : Nat} {f0 : Value → Option Value} {U G : List ByteArray} {d : List Nat} {k m : Nat} {ps : List (Nat × Nat)} {u : Value → Option Value} {w w' : World} (h : Mint W mp um f0 U G d k m ps u w) (hb : Below w.heap.size w w') : Mint W mp um f0 U G d k m ps u w' :=
  ⟨h.near.trans (Near.below hb), h.bound, h.fsts, h.snds, h.free, h.props.below hb, h.used.below hb, h.set⟩
theorem Mint.start {W : World} {mp um : Nat} {f0 u0 : Value → Option Value} {U G : List ByteArray} {d : List Nat} {w : World} (hn : Near mp um W w) (h1 : MapIs Tryz.prog 44 w mp f0) (h2 : MapIs Tryz.prog 9 w um u0) (h3 : SetIs u0 U) : Mint W mp um f0 U G d 0 0 [] u0 w :=
  ⟨hn, Nat.le_refl _, rfl, List.Pairwise.nil, (fun p hp => absurd hp List.not_mem_nil), h1, h2, h3⟩
open Classical in
theorem Mint.slot {W : World} {mp um : Nat} {f0 : Value → Option Value} {U G : List ByteArray} {d : List Nat} {k m : Nat} {ps : List (Nat × Nat)} {u : Value → Option Value} {w : World} (h : Mint W mp um f0 U G d k m ps u w) (hk : k ≤ 4096) (hG : G.length ≤ 4096) (hU : U.length ≤ 1048576) :
    ∃ m', m ≤ m' ∧ m' ≤ m + 1056768 ∧ nm m' ∉ G ∧ nm m' ∉ ps.map (fun p => nm p.2) ++ U ∧ ∀ i, m ≤ i → i < m' → nm i ∈ G ∨ (nm i ∉ G ∧ nm i ∈ ps.map (fun p => nm p.2) ++ U) := by
  have hl : ps.length ≤ k := by
    have h1 := congrArg List.length h.fsts
    rw [List.length_map, List.length_take] at h1
    omega
  obtain ⟨m', h1, h2, h3, h4⟩ := free_slot nm (fun i j e => nm_inj e) 1056768 (G ++ (ps.map (fun p => nm p.2) ++ U)) m (by rw [List.length_append, List.length_append, List.length_map]; omega)
  refine ⟨m', h1, h3, fun e => h2 (List.mem_append.2 (Or.inl e)), fun e => h2 (List.mem_append.2 (Or.inr e)), fun i hi hi2 => ?_⟩
  by_cases hg : nm i ∈ G
  · exact Or.inl hg
  · rcases List.mem_append.1 (h4 i hi hi2) with h5 | h5
    · exact absurd h5 hg
    · exact Or.inr ⟨hg, h5⟩
theorem Mint.step {W : World} {mp um : Nat} {f0 : Value → Option Value} {U G : List ByteArray} {d : List Nat} {k m m' i : Nat} {ps : List (Nat × Nat)} {u : Value → Option Value} {w w1 w2 w3 w4 : World} (h : Mint W mp um f0 U G d k m ps u w) (hne : mp ≠ um) (hi : d[k]? = some i) (h1 : m ≤ m') (h2 : m' ≤ m + 1056768) (hG : nm m' ∉ G) (hT : nm m' ∉ ps.map (fun p => nm p.2) ++ U)
    (b1 : Below w.heap.size w w1) (p2 : MapIs Tryz.prog 44 w2 mp (upd (puts f0 ps) (ref i) (.string (nm m')))) (g2 : w1.grownBy w2 (some mp)) (b3 : Below w2.heap.size w2 w3) (p4 : MapIs Tryz.prog 9 w4 um (upd u (.string (nm m')) (.bool true))) (g4 : w3.grownBy w4 (some um)) :
    Mint W mp um f0 U G d (k + 1) m' (ps ++ [(i, m')]) (upd u (.string (nm m')) (.bool true)) w4 := by
  have e := h.bound
  have n1 : Near mp um W w1 := h.near.trans (Near.below b1)
  have n2 : Near mp um W w2 := n1.grown g2 (fun k hk => by cases hk; exact Or.inl rfl)
  have n3 : Near mp um W w3 := n2.trans (Near.below b3)
  have n4 : Near mp um W w4 := n3.grown g4 (fun k hk => by cases hk; exact Or.inr (Or.inl rfl))
  refine ⟨n4, by omega, ?_, ?_, ?_, ?_, p4, ?_⟩
  · rw [List.map_append, h.fsts, List.take_add_one, hi]
    rfl
  · rw [List.pairwise_append]
    refine ⟨h.snds, List.pairwise_singleton _ _, fun a ha b hb => ?_⟩
    obtain rfl := List.mem_singleton.1 hb
    have h5 := (h.free a ha).1
    rcases Nat.lt_or_ge a.2 m' with h6 | h6
    · exact h6
    · exfalso
      have h7 : a.2 = m' := by omega
      exact hT (List.mem_append.2 (Or.inl (List.mem_map.2 ⟨a, ha, by rw [h7]⟩)))
  · intro p hp
    rcases List.mem_append.1 hp with hp | hp
    · have h5 := h.free p hp
      exact ⟨Nat.le_trans h5.1 h1, h5.2⟩
    · obtain rfl := List.mem_singleton.1 hp
      exact ⟨Nat.le_refl _, hG, fun e => hT (List.mem_append.2 (Or.inr e))⟩
  · rw [puts_snoc]
    exact ((p2.below b3).grown g4 (by intro e; exact hne (Option.some.inj e)))
  · refine (h.set.put (nm m')).iff (fun s => ?_)
    simp only [List.map_append, List.map_cons, List.map_nil, List.mem_cons, List.mem_append, List.mem_singleton, List.not_mem_nil, or_false]
    constructor
    · rintro (h1 | h1 | h1)
      · exact Or.inl (Or.inr h1)
      · exact Or.inl (Or.inl h1)
      · exact Or.inr h1
    · rintro ((h1 | h1) | h1)
      · exact Or.inr (Or.inl h1)
      · exact Or.inl h1
      · exact Or.inr (Or.inr h1)
theorem set_yes {w : World} {b : Nat} {f : Value → Option Value} {l : List ByteArray} (h : MapIs Tryz.prog 9 w b f) (hs : SetIs f l) {s : ByteArray} (hz : s.size ≤ 1048576) (hm : s ∈ l) : (Instr.lookup 35 (.map (some b)) (.string s) false).run Tryz.prog w = .ok (.bool true) w := by
  have h1 := h.look K9 Tryz.underlying35 (zero4 w) (str_key s hz) false
  rw [hs.yes hm] at h1
  exact h1
theorem set_no {w : World} {b : Nat} {f : Value → Option Value} {l : List ByteArray} (h : MapIs Tryz.prog 9 w b f) (hs : SetIs f l) {s : ByteArray} (hz : s.size ≤ 1048576) (hm : s ∉ l) : (Instr.lookup 35 (.map (some b)) (.string s) false).run Tryz.prog w = .ok (.bool false) w := by
  have h1 := h.look K9 Tryz.underlying35 (zero4 w) (str_key s hz) false
  rw [hs.no hm] at h1
  exact h1
theorem below_near {w1 W0 w : World} {g5 g6 : Nat} (h : Below g5 w1 W0) (k : Near g5 g6 W0 w) (h6 : g5 ≤ g6) (hz : g5 ≤ W0.heap.size) : Below g5 w1 w :=
  ⟨k.os.trans h.os, k.tape.trans h.tape, k.output.trans h.output, Nat.le_trans h.size k.size, fun i hi => (k.block i (by omega) (by omega) (by omega)).trans (h.block i hi)⟩
theorem own_block {w w' : World} {base : Nat} {e : TypeId} {size n g l c : Nat} {xs : List Value} (h : w.ownsRow base e size (.slice (some ⟨g, 0, none⟩) l c) n xs) (hb : w'.heap[g]? = w.heap[g]?) : w'.ownsRow base e size (.slice (some ⟨g, 0, none⟩) l c) n xs := by
  refine ⟨h.1, ?_⟩
  rcases h.2 with h | ⟨g', cap, cur, he, h0, hgg, hr⟩
  · exact .inl h
  · refine .inr ⟨g', cap, cur, he, h0, ?_, hr⟩
    have e2 : g = g' := by
      have := congrArg (fun v => match v with | Value.slice (some a) _ _ => a.block | _ => 0) he
      simpa using this
    rw [← e2] at hgg ⊢
    exact hb.trans hgg
theorem number_nm (i : Nat) (x : Int) (w : World) (hx : x = (i : Int)) (hi : i ≤ 1099511627776) : Calls Tryz.prog 31 #[.agg #[.string cssHead, .string cssTail], .int .i64 x] w (fun e w' => e = .returned (.string (nm i)) ∧ Below w.heap.size w w') := by
  subst hx
  exact number_any cssHead cssTail i w (by rw [head_size]; decide) (by rw [tail_size]; decide) (by rw [head_size]; decide) (by rw [tail_size]; decide) hi
theorem encS_at (C : Nat → Int) (d : List Nat) (k i : Nat) (hi : d[k]? = some i) {w : World} {g base n c : Nat} {e : TypeId} (hd : d.length = n) (ho : w.ownsRow base e 4 (.slice (some ⟨g, 0, none⟩) n c) n (flat (encS C) d)) :
    w.cell? ⟨g, k * 4, none⟩ = some (.int .u32 1) ∧ w.cell? ⟨g, k * 4 + 1, none⟩ = some (.int .u32 1) ∧ w.cell? ⟨g, k * 4 + 2, none⟩ = some (.int .u32 (i : Int)) ∧ w.cell? ⟨g, k * 4 + 3, none⟩ = some (.int .u32 (C i)) := by
  obtain ⟨hk, he⟩ := List.getElem?_eq_some_iff.1 hi
  have hrow := fun (r : Nat) (hr : r < 4) => row_cell (r := r) (d := d.toArray) (encS_len C) (by simpa using hd) (by simpa using ho) (by omega : k < n) hr
  have hel : d.toArray[k]! = i := by
    rw [getElem!_pos _ k (by simpa using hk)]
    simpa using he
  have a0 := hrow 0 (by decide)
  have a1 := hrow 1 (by decide)
  have a2 := hrow 2 (by decide)
  have a3 := hrow 3 (by decide)
  rw [hel] at a0 a1 a2 a3
  exact ⟨a0, a1, a2, a3⟩
end Go.Proofs.YtokehapgddicjaaGreatFmt
