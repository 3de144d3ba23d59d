/- Words for the walk of mangleLocalCSS. -/
import Derived.Test.YtokehapgddicjaaGreatFmtB6a
import Derived.Defers
import Derived.Deep.RegionHeld3
import Derived.Deep.CutBlock
import Derived.Great.Walk
import Derived.Deep.MidRow
import Derived.Deep.AppendLies
import Derived.Stop.NoCallOwed
namespace Go.Proofs.YtokehapgddicjaaGreatFmt
open Go.RowKit
set_option linter.unusedVariables false
set_option linter.unusedSimpArgs false
theorem begin_nil (s : ByteArray) (w : World) : Calls Tryz.prog 23 #[.pointer none, .string s] w (fun e w' => e = .returned (.tuple #[]) ∧ w' = w) := by
  go_enter Tryz.func23, Tryz.ntmps23
  go_wp2_with fail
  go_end0
  exact ⟨rfl, rfl⟩
theorem end_nil (s : ByteArray) (w : World) : CallsD Tryz.prog 24 #[.pointer none, .string s] .returning w (fun e u' w' => u' = .returning ∧ (e = .returned (.tuple #[]) ∧ w' = w)) := by
  go_enter_d Tryz.func24, Tryz.ntmps24
  go_wp2_with fail
  go_end0
  exact ⟨rfl, rfl⟩
/-- All but the two maps mp, um is as it was. -/
structure Near (mp um : Nat) (w w' : World) : Prop where
  os : w'.os = w.os
  tape : w'.tape = w.tape
  output : w'.output = w.output
  size : w.heap.size ≤ w'.heap.size
  block : ∀ b, b < w.heap.size → b ≠ mp → b ≠ um → w'.heap[b]? = w.heap[b]?
theorem Near.refl (mp um : Nat) (w : World) : Near mp um w w := ⟨rfl, rfl, rfl, Nat.le_refl _, fun _ _ _ _ => rfl⟩
theorem Near.trans {mp um : Nat} {a b c : World} (h : Near mp um a b) (k : Near mp um b c) : Near mp um a c :=
  ⟨k.os.trans h.os, k.tape.trans h.tape, k.output.trans h.output, Nat.le_trans h.size k.size, fun i h1 h2 h3 => (k.block i (Nat.lt_of_lt_of_le h1 h.size) h2 h3).trans (h.block i h1 h2 h3)⟩
theorem Near.below {mp um : Nat} {a b : World} (h : Below a.heap.size a b) : Near mp um a b := ⟨h.os, h.tape, h.output, h.size, fun i h1 _ _ => h.block i h1⟩
theorem Near.grown {mp um : Nat} {a b c : World} {r : Option Nat} (h : Near mp um a b) (hg : b.grownBy c r) (hr : ∀ k, r = some k → k = mp ∨ k = um ∨ a.heap.size ≤ k) : Near mp um a c :=
  ⟨hg.os.trans h.os, hg.tape.trans h.tape, hg.output.trans h.output, Nat.le_trans h.size hg.size, fun i h1 h2 h3 => (hg.block i (Nat.lt_of_lt_of_le h1 h.size) (fun e => by
    rcases hr i e.symm with h4 | h4 | h4
    · exact h2 h4
    · exact h3 h4
    · omega)).trans (h.block i h1 h2 h3)⟩
theorem Near.cell {mp um : Nat} {w w' : World} (h : Near mp um w w') {p : Addr} {v : Value} (hc : w.cell? p = some v) (h1 : p.block ≠ mp) (h2 : p.block ≠ um) : w'.cell? p = some v :=
  (World.cell?_of_block (w := w) (h.block p.block (block_lt_of_cell hc) h1 h2)).trans hc
/-- The cells of symbol i. -/
def symL (S : Nat → ByteArray) (B : Nat → Bool) (C : Nat → Int) (i : Nat) : List Value := [.pointer none, .string (S i), .int .u32 4294967295, .int .u32 4294967295, .int .u32 (C i), .int .u32 0, .int .u32 0, .int .u16 0, .int .u8 (if B i then 25 else 26), .int .u8 0]
/-- What mangleLocalCSS finds: the blocks of the linker's context (cx), its options (op), files (fl), the CSS file (cr), the lists (rf, ss), the symbols (S2, sb) and the two maps. -/
structure Ctx (cx op fl cr rf ss S2 sb mp um n : Nat) (S : Nat → ByteArray) (B : Nat → Bool) (C : Nat → Int) (w : World) : Prop where
  opt : w.cell? ⟨cx, 0, none⟩ = some (.pointer (some ⟨op, 0, none⟩))
  timer : w.cell? ⟨cx, 1, none⟩ = some (.pointer none)
  files : w.cell? ⟨cx, 10, none⟩ = some (.slice (some ⟨fl, 0, none⟩) 2 2)
  syms : w.cell? ⟨cx, 12, none⟩ = some (.slice (some ⟨S2, 0, none⟩) 2 2)
  reach : w.cell? ⟨cx, 15, none⟩ = some (.slice (some ⟨rf, 0, none⟩) 1 1)
  stable : w.cell? ⟨cx, 16, none⟩ = some (.slice (some ⟨ss, 0, none⟩) 2 2)
  props : w.cell? ⟨cx, 22, none⟩ = some (.map (some mp))
  mini : w.cell? ⟨op, 76, none⟩ = some (.bool true)
  reach0 : w.cell? ⟨rf, 0, none⟩ = some (.int .u32 1)
  stable1 : w.cell? ⟨ss, 1, none⟩ = some (.int .u32 1)
  repr : w.cell? ⟨fl, 26, none⟩ = some (.iface 54 (.pointer (some ⟨cr, 0, none⟩)))
  freq : w.cell? ⟨cr, 1, none⟩ = some (.pointer none)
  row : w.cell? ⟨S2, 1, none⟩ = some (.slice (some ⟨sb, 0, none⟩) n n)
  sbl : sb < w.heap.size
  sym : ∀ i, i < n → ∀ j v, (symL S B C i)[j]? = some v → w.cell? ⟨sb, i * 10 + j, none⟩ = some v
  inv0 : w.cell? ⟨0, 0, none⟩ = some (.int .u32 4294967295)
  inv1 : w.cell? ⟨0, 1, none⟩ = some (.int .u32 4294967295)
/-- No block of the context is one of the two maps. -/
structure Apart (cx op fl cr rf ss S2 sb mp um : Nat) : Prop where
  cx : cx ≠ mp ∧ cx ≠ um
  op : op ≠ mp ∧ op ≠ um
  fl : fl ≠ mp ∧ fl ≠ um
  cr : cr ≠ mp ∧ cr ≠ um
  rf : rf ≠ mp ∧ rf ≠ um
  ss : ss ≠ mp ∧ ss ≠ um
  S2 : S2 ≠ mp ∧ S2 ≠ um
  sb : sb ≠ mp ∧ sb ≠ um
  z : 0 ≠ mp ∧ 0 ≠ um
  two : mp ≠ um
theorem Ctx.nearOf {cx op fl cr rf ss S2 sb mp um mp' um' n : Nat} {S : Nat → ByteArray} {B : Nat → Bool} {C : Nat → Int} {w w' : World} (h : Ctx cx op fl cr rf ss S2 sb mp um n S B C w) (a : Apart cx op fl cr rf ss S2 sb mp' um') (k : Near mp' um' w w') : Ctx cx op fl cr rf ss S2 sb mp um n S B C w' :=
  ⟨k.cell h.opt a.cx.1 a.cx.2, k.cell h.timer a.cx.1 a.cx.2, k.cell h.files a.cx.1 a.cx.2, k.cell h.syms a.cx.1 a.cx.2, k.cell h.reach a.cx.1 a.cx.2, k.cell h.stable a.cx.1 a.cx.2, k.cell h.props a.cx.1 a.cx.2, k.cell h.mini a.op.1 a.op.2, k.cell h.reach0 a.rf.1 a.rf.2, k.cell h.stable1 a.ss.1 a.ss.2, k.cell h.repr a.fl.1 a.fl.2, k.cell h.freq a.cr.1 a.cr.2, k.cell h.row a.S2.1 a.S2.2, Nat.lt_of_lt_of_le h.sbl k.size, fun i hi j v hv => k.cell (h.sym i hi j v hv) a.sb.1 a.sb.2, k.cell h.inv0 a.z.1 a.z.2, k.cell h.inv1 a.z.1 a.z.2⟩
theorem Ctx.near {cx op fl cr rf ss S2 sb mp um n : Nat} {S : Nat → ByteArray} {B : Nat → Bool} {C : Nat → Int} {w w' : World} (h : Ctx cx op fl cr rf ss S2 sb mp um n S B C w) (a : Apart cx op fl cr rf ss S2 sb mp um) (k : Near mp um w w') : Ctx cx op fl cr rf ss S2 sb mp um n S B C w' :=
  ⟨k.cell h.opt a.cx.1 a.cx.2, k.cell h.timer a.cx.1 a.cx.2, k.cell h.files a.cx.1 a.cx.2, k.cell h.syms a.cx.1 a.cx.2, k.cell h.reach a.cx.1 a.cx.2, k.cell h.stable a.cx.1 a.cx.2, k.cell h.props a.cx.1 a.cx.2, k.cell h.mini a.op.1 a.op.2, k.cell h.reach0 a.rf.1 a.rf.2, k.cell h.stable1 a.ss.1 a.ss.2, k.cell h.repr a.fl.1 a.fl.2, k.cell h.freq a.cr.1 a.cr.2, k.cell h.row a.S2.1 a.S2.2, Nat.lt_of_lt_of_le h.sbl k.size, fun i hi j v hv => k.cell (h.sym i hi j v hv) a.sb.1 a.sb.2, k.cell h.inv0 a.z.1 a.z.2, k.cell h.inv1 a.z.1 a.z.2⟩
/-- The map holds just the list's strings, each as true. -/
def SetIs (f : Value → Option Value) (l : List ByteArray) : Prop := ∀ s : ByteArray, (s ∈ l → f (.string s) = some (Value.bool true)) ∧ (s ∉ l → f (.string s) = none)
theorem SetIs.nil : SetIs (fun _ => none) [] := fun s => ⟨fun h => by simp at h, fun _ => rfl⟩
theorem SetIs.put {f : Value → Option Value} {l : List ByteArray} (h : SetIs f l) (s : ByteArray) : SetIs (upd f (.string s) (.bool true)) (s :: l) := fun t => by
  by_cases e : t = s
  · subst e
    exact ⟨fun _ => upd_same _ _ _, fun h => absurd (List.mem_cons_self) h⟩
  · rw [upd_other f _ (show Value.string t ≠ Value.string s from fun he => e (by cases he; rfl))]
    exact ⟨fun h1 => (h t).1 (by rcases List.mem_cons.1 h1 with h2 | h2; exact absurd h2 e; exact h2), fun h1 => (h t).2 (fun h2 => h1 (List.mem_cons_of_mem _ h2))⟩
theorem SetIs.yes {f : Value → Option Value} {l : List ByteArray} (h : SetIs f l) {s : ByteArray} (hs : s ∈ l) : (f (.string s)).getD (Value.bool false) = Value.bool true := by
  rw [(h s).1 hs]; rfl
theorem SetIs.no {f : Value → Option Value} {l : List ByteArray} (h : SetIs f l) {s : ByteArray} (hs : s ∉ l) : (f (.string s)).getD (Value.bool false) = Value.bool false := by
  rw [(h s).2 hs]; rfl
theorem Ctx.apart {cx op fl cr rf ss S2 sb mp um n : Nat} {S : Nat → ByteArray} {B : Nat → Bool} {C : Nat → Int} {w : World} (h : Ctx cx op fl cr rf ss S2 sb mp um n S B C w) {g5 g6 : Nat} (h5 : w.heap.size ≤ g5) (h6 : w.heap.size ≤ g6) (hne : g5 ≠ g6) : Apart cx op fl cr rf ss S2 sb g5 g6 := by
  have a1 := block_lt_of_cell h.opt
  have a2 := block_lt_of_cell h.mini
  have a3 := block_lt_of_cell h.repr
  have a4 := block_lt_of_cell h.freq
  have a5 := block_lt_of_cell h.reach0
  have a6 := block_lt_of_cell h.stable1
  have a7 := block_lt_of_cell h.row
  have a8 := h.sbl
  have a9 := block_lt_of_cell h.inv0
  simp only at a1 a2 a3 a4 a5 a6 a7 a8 a9
  refine ⟨⟨?_, ?_⟩, ⟨?_, ?_⟩, ⟨?_, ?_⟩, ⟨?_, ?_⟩, ⟨?_, ?_⟩, ⟨?_, ?_⟩, ⟨?_, ?_⟩, ⟨?_, ?_⟩, ⟨?_, ?_⟩, hne⟩ <;> omega
theorem Ctx.below {cx op fl cr rf ss S2 sb mp um n : Nat} {S : Nat → ByteArray} {B : Nat → Bool} {C : Nat → Int} {w w' : World} (h : Ctx cx op fl cr rf ss S2 sb mp um n S B C w) (k : Below w.heap.size w w') : Ctx cx op fl cr rf ss S2 sb mp um n S B C w' := by
  have c : ∀ {p : Addr} {v : Value}, w.cell? p = some v → w'.cell? p = some v := fun hp => (k.cell (block_lt_of_cell hp)).trans hp
  exact ⟨c h.opt, c h.timer, c h.files, c h.syms, c h.reach, c h.stable, c h.props, c h.mini, c h.reach0, c h.stable1, c h.repr, c h.freq, c h.row, Nat.lt_of_lt_of_le h.sbl k.size, fun i hi j v hv => c (h.sym i hi j v hv), c h.inv0, c h.inv1⟩
/-- The names of the first k symbols that are global; the numbers of those that are local. -/
def globs (S : Nat → ByteArray) (B : Nat → Bool) (k : Nat) : List ByteArray := ((List.range k).filter B).map S
def locs (B : Nat → Bool) (k : Nat) : List Nat := (List.range k).filter (fun i => !B i)
theorem globs_yes {S : Nat → ByteArray} {B : Nat → Bool} {k : Nat} (h : B k = true) : globs S B (k + 1) = globs S B k ++ [S k] := by
  simp [globs, List.range_succ, List.filter_append, h]
theorem globs_no {S : Nat → ByteArray} {B : Nat → Bool} {k : Nat} (h : B k = false) : globs S B (k + 1) = globs S B k := by
  simp [globs, List.range_succ, List.filter_append, h]
theorem locs_yes {B : Nat → Bool} {k : Nat} (h : B k = true) : locs B (k + 1) = locs B k := by
  simp [locs, List.range_succ, List.filter_append, h]
theorem locs_no {B : Nat → Bool} {k : Nat} (h : B k = false) : locs B (k + 1) = locs B k ++ [k] := by
  simp [locs, List.range_succ, List.filter_append, h]
theorem globs_le (S : Nat → ByteArray) (B : Nat → Bool) (n : Nat) : (globs S B n).length ≤ n := by
  have := List.length_filter_le B (List.range n)
  simpa [globs] using this
theorem SetIs.iff {f : Value → Option Value} {l l' : List ByteArray} (h : SetIs f l) (hl : ∀ s, s ∈ l ↔ s ∈ l') : SetIs f l' := fun s => ⟨fun h1 => (h s).1 ((hl s).2 h1), fun h1 => (h s).2 (fun h2 => h1 ((hl s).1 h2))⟩
/-- The map's keys are the references of the list. -/
def RefIs (f : Value → Option Value) (l : List Nat) : Prop := ∀ x, (f x).isSome = true ↔ x ∈ l.map ref
theorem RefIs.nil : RefIs (fun _ => none) [] := fun x => by simp
theorem RefIs.snoc {f : Value → Option Value} {l : List Nat} (h : RefIs f l) (i : Nat) (v : Value) : RefIs (upd f (ref i) v) (l ++ [i]) := fun x => by
  by_cases e : x = ref i
  · subst e
    rw [upd_same]
    simp
  · rw [upd_other f v e, h x]
    simp [e]
/-- Behind k symbols. -/
structure Sift (W0 : World) (g5 g6 : Nat) (S : Nat → ByteArray) (B : Nat → Bool) (k : Nat) (w : World) : Prop where
  glob : ∃ f, MapIs Tryz.prog 9 w g5 f ∧ SetIs f (globs S B k)
  refs : ∃ f, MapIs Tryz.prog 44 w g6 f ∧ RefIs f (locs B k)
  near : Near g5 g6 W0 w
theorem Sift.below {W0 : World} {g5 g6 : Nat} {S : Nat → ByteArray} {B : Nat → Bool} {k : Nat} {w w' : World} (h : Sift W0 g5 g6 S B k w) (hb : Below w.heap.size w w') : Sift W0 g5 g6 S B k w' := by
  obtain ⟨f, h1, h2⟩ := h.glob
  obtain ⟨r, h3, h4⟩ := h.refs
  exact ⟨⟨f, h1.below hb, h2⟩, ⟨r, h3.below hb, h4⟩, h.near.trans (Near.below hb)⟩
theorem Sift.global {W0 : World} {g5 g6 : Nat} {S : Nat → ByteArray} {B : Nat → Bool} {k : Nat} {w w' : World} (h : Sift W0 g5 g6 S B k w) (hne : g5 ≠ g6) {f : Value → Option Value} (hk : B k = true) (h1 : MapIs Tryz.prog 9 w g5 f) (hs : SetIs f (globs S B k)) (h2 : MapIs Tryz.prog 9 w' g5 (upd f (.string (S k)) (.bool true))) (hg : w.grownBy w' (some g5)) : Sift W0 g5 g6 S B (k + 1) w' := by
  obtain ⟨r, h3, h4⟩ := h.refs
  refine ⟨⟨_, h2, ?_⟩, ⟨r, h3.grown hg (by intro e; exact hne (Option.some.inj e).symm), by rw [locs_yes hk]; exact h4⟩, h.near.grown hg (fun k hk => by cases hk; exact Or.inl rfl)⟩
  rw [globs_yes hk]
  exact (hs.put (S k)).iff (fun s => by simp [or_comm])
theorem Sift.local {W0 : World} {g5 g6 : Nat} {S : Nat → ByteArray} {B : Nat → Bool} {k : Nat} {w w' : World} (h : Sift W0 g5 g6 S B k w) (hne : g5 ≠ g6) {f : Value → Option Value} {v : Value} (hk : B k = false) (h1 : MapIs Tryz.prog 44 w g6 f) (hs : RefIs f (locs B k)) (h2 : MapIs Tryz.prog 44 w' g6 (upd f (ref k) v)) (hg : w.grownBy w' (some g6)) : Sift W0 g5 g6 S B (k + 1) w' := by
  obtain ⟨r, h3, h4⟩ := h.glob
  refine ⟨⟨r, h3.grown hg (by intro e; exact hne (Option.some.inj e)), by rw [globs_no hk]; exact h4⟩, ⟨_, h2, ?_⟩, h.near.grown hg (fun k hk => by cases hk; exact Or.inr (Or.inl rfl))⟩
  rw [locs_no hk]
  exact hs.snoc k v
/-- The walk goes on with what is known of the world alone. -/
theorem wp_forget {P : Program} {c : Code} {Q : Exit → Act → World → Prop} {a : Act} {w : World} (F : World → Prop) (hF : F w) (h : ∀ w1, F w1 → c.wp P Q a w1) : c.wp P Q a w := h w hF
theorem heap_two (w : World) (o1 o2 : Obj) : ((w.alloc o1).alloc o2).heap[w.heap.size + 1]? = some o2 := by
  have := heap_alloc_new (w.alloc o1) o2
  simpa using this
theorem below_two (w : World) (o1 o2 : Obj) : Below w.heap.size w ((w.alloc o1).alloc o2) := ((Below.refl _ _).alloc (Nat.le_refl _) _).alloc (by simp) _
theorem ta_yes {A zt : TypeId} (hA : Tryz.prog.underlying A = some (.pointer zt)) (v : Value) (w : World) :
    (Instr.typeAssert (.iface A v) 73 A true).run Tryz.prog w = .ok (.tuple #[v, .bool true]) w := by
  simp [Instr.typeAssert, run_underlying hA]
theorem setRow_other' (w : World) (b x : Nat) (cs : Array Value) (h : x ≠ b) : (w.setRow b cs).heap[x]? = w.heap[x]? := by
  unfold World.setRow
  simp [Array.getElem?_modify, Ne.symm h]
theorem setRow_heap' (w : World) (b : Nat) (cs old : Array Value) (t : TypeId) (z : Nat × Nat) (h : w.heap[b]? = some (.cells old t z)) : (w.setRow b cs).heap[b]? = some (.cells cs t z) := by
  unfold World.setRow
  simp [Array.getElem?_modify, h]
theorem below_setRow' {n : Nat} {a w : World} (h : Below n a w) {b : Nat} (hb : n ≤ b) (cs : Array Value) : Below n a (w.setRow b cs) :=
  ⟨h.os, h.tape, h.output, by simpa [World.setRow] using h.size, fun x hx => (setRow_other' w b x cs (by omega)).trans (h.block x hx)⟩
theorem map_empty {P : Program} {k : TypeId} {w : World} {b : Nat} (h : w.heap[b]? = some (.map #[] 0)) : MapIs P k w b (fun _ => none) :=
  ⟨#[], 0, h, MapKept.stamped_empty 0, fun e he => by simp at he, fun x v => by simp⟩
theorem wrap_u32 (k : Nat) (h : k < 4294967296) : IntKind.u32.wrap (k : Int) = (k : Int) := by
  have : IntKind.u32.wrap (k : Int) = ((k : Int) % 4294967296) := by rfl
  omega
theorem info188 : (Tryz.prog.info? 188).map (fun i => (i.zero, i.size)) = some (some (.agg freq0), 64) := by kernel_rfl
theorem alloc_gen {P : Program} {t : TypeId} {zs : Array Value} {n : Nat} (h : (P.info? t).map (fun i => (i.zero, i.size)) = some (some (.agg zs), n)) (w : World) (a : Act) (o : Oper) (ho : o.op = Op.alloc t) (s : Nat) (hs : w.heap.size = s) : (execOp a.eval o).run P w = .ok (.value (.pointer (some ⟨s, 0, none⟩))) (w.alloc (.cells zs t)) := by
  cases hi : P.info? t with
  | none => rw [hi] at h; cases h
  | some i =>
    rw [hi] at h
    have h1 : i.zero = some (.agg zs) := (Prod.mk.inj (Option.some.inj h)).1
    have h2 : (typeInfo t).run P w = .ok i w := Extern.FmtCalls.run_typeInfo_some hi
    subst hs
    simp [execOp, ho, Instr.alloc, zeroValue, h2, h1, newVar, newRow, Result.andThen, Value.cells]
theorem locs_nodup (B : Nat → Bool) (n : Nat) : ((locs B n).map ref).Nodup := by
  have h1 : (locs B n).Nodup := List.nodup_range.filter _
  exact List.pairwise_map.2 (List.Pairwise.imp (fun {a b} (h : a ≠ b) e => h (ref_inj e)) h1)
theorem locs_le (B : Nat → Bool) (n : Nat) : (locs B n).length ≤ n := by
  have := List.length_filter_le (fun i => !B i) (List.range n)
  simpa [locs] using this
theorem own_fresh' (w : World) (base : Nat) (e : TypeId) (size n : Nat) (cs : Array Value) (hb : base ≤ w.heap.size) (hm : n ≤ maxLen) (hs : cs.size = n * size) :
    (w.alloc (.cells cs e)).ownsRow base e size (.slice (some ⟨w.heap.size, 0, none⟩) 0 n) 0 [] :=
  ⟨by simp, .inr ⟨w.heap.size, n, cs, rfl, hb, heap_alloc_new w _, Nat.zero_le _, hm, hs, by simp⟩⟩
theorem locs_lt {B : Nat → Bool} {n i : Nat} (h : i ∈ locs B n) : i < n := List.mem_range.1 (List.mem_filter.1 h).1
def unref : Value → Nat
  | .agg cs => (match cs[1]? with | some (Value.int _ n) => n.toNat | _ => 0)
  | _ => 0
theorem unref_ref (i : Nat) : unref (ref i) = i := by simp [unref, ref]
theorem perm_ref {a b : List Nat} (h : (a.map ref).Perm (b.map ref)) : a.Perm b := by
  have := h.map unref
  simpa [List.map_map, Function.comp_def, unref_ref] using this
theorem own_grown {w w' : World} {base : Nat} {e : TypeId} {size n g l c r : Nat} {xs : List Value} (h : w.ownsRow base e size (.slice (some ⟨g, 0, none⟩) l c) n xs) (hg : w.grownBy w' (some r)) (hne : g ≠ r) : w'.ownsRow base e size (.slice (some ⟨g, 0, none⟩) l c) n xs := by
  refine ⟨h.1, ?_⟩
  rcases h.2 with h | ⟨g', cap, cur, he, h0, hgg, hr⟩
  · exact .inl h
  · refine .inr ⟨g', cap, cur, he, h0, (hg.block _ (Array.getElem?_eq_some_iff.1 hgg).1 (fun e => ?_)).trans hgg, hr⟩
    have e1 := Option.some.inj e
    have e2 : g = g' := by
      have := congrArg (fun v => match v with | Value.slice (some a) _ _ => a.block | _ => 0) he
      simpa using this
    omega
/-- What holds all through the round's last region. -/
def RT (W : World) (g8 b17 cx ss S2 sb n i : Nat) (c : Int) (w' : World) : Prop := W.grownBy w' (some g8) ∧ w'.cell? ⟨b17, 0, none⟩ = some (.int .u32 1) ∧ w'.cell? ⟨b17, 1, none⟩ = some (.int .u32 (i : Int)) ∧ w'.cell? ⟨ss, 1, none⟩ = some (.int .u32 1) ∧ w'.cell? ⟨cx, 12, none⟩ = some (.slice (some ⟨S2, 0, none⟩) 2 2) ∧ w'.cell? ⟨S2, 1, none⟩ = some (.slice (some ⟨sb, 0, none⟩) n n) ∧ w'.cell? ⟨sb, i * 10 + 4, none⟩ = some (.int .u32 c)
section
variable {W w1 w2 : World} {g8 b17 cx ss S2 sb n i : Nat} {c : Int} {R : Prop}
theorem grown_cell {w w' : World} {r : Nat} (hg : w.grownBy w' (some r)) {p : Addr} {v : Value} (h : w.cell? p = some v) (hne : p.block ≠ r) : w'.cell? p = some v :=
  (World.cell?_of_block (hg.block p.block (block_lt_of_cell h) (fun e => hne (Option.some.inj e)))).trans h
theorem grown_trans {a b c : World} {r : Option Nat} (h : a.grownBy b r) (k : b.grownBy c r) : a.grownBy c r :=
  ⟨k.os.trans h.os, k.tape.trans h.tape, k.output.trans h.output, Nat.le_trans h.size k.size, fun i h1 h2 => (k.block i (Nat.lt_of_lt_of_le h1 h.size) h2).trans (h.block i h1 h2)⟩
theorem grown_of_below' {w1 w2 : World} {r : Option Nat} (hb : Below w1.heap.size w1 w2) : w1.grownBy w2 r := ⟨hb.os, hb.tape, hb.output, hb.size, fun k hk _ => hb.block k hk⟩
theorem rt_full (hn : b17 ≠ g8 ∧ ss ≠ g8 ∧ cx ≠ g8 ∧ S2 ≠ g8 ∧ sb ≠ g8) (h0 : RT W g8 b17 cx ss S2 sb n i c W) (hg : W.grownBy w1 (some g8)) : RT W g8 b17 cx ss S2 sb n i c w1 :=
  ⟨hg, grown_cell hg h0.2.1 hn.1, grown_cell hg h0.2.2.1 hn.1, grown_cell hg h0.2.2.2.1 hn.2.1, grown_cell hg h0.2.2.2.2.1 hn.2.2.1, grown_cell hg h0.2.2.2.2.2.1 hn.2.2.2.1, grown_cell hg h0.2.2.2.2.2.2 hn.2.2.2.2⟩
theorem rt_drew (h0 : RT W g8 b17 cx ss S2 sb n i c W) : RT W g8 b17 cx ss S2 sb n i c W.drew := ⟨⟨rfl, rfl, rfl, Nat.le_refl _, fun _ _ _ => rfl⟩, h0.2⟩
theorem rt_call (hn : b17 ≠ g8 ∧ ss ≠ g8 ∧ cx ≠ g8 ∧ S2 ≠ g8 ∧ sb ≠ g8) (h0 : RT W g8 b17 cx ss S2 sb n i c W) (hb : Below w1.heap.size w1 w2) (h : W.grownBy w1 (some g8) ∧ R) : RT W g8 b17 cx ss S2 sb n i c w2 := rt_full hn h0 (grown_trans h.1 (grown_of_below' hb))
theorem rt_alloc (hn : b17 ≠ g8 ∧ ss ≠ g8 ∧ cx ≠ g8 ∧ S2 ≠ g8 ∧ sb ≠ g8) (h0 : RT W g8 b17 cx ss S2 sb n i c W) (ob : Obj) (h : W.grownBy w1 (some g8) ∧ R) : RT W g8 b17 cx ss S2 sb n i c (w1.alloc ob) := rt_call hn h0 ((Below.refl _ _).alloc (Nat.le_refl _) _) h
theorem rt_grow (hn : b17 ≠ g8 ∧ ss ≠ g8 ∧ cx ≠ g8 ∧ S2 ≠ g8 ∧ sb ≠ g8) (h0 : RT W g8 b17 cx ss S2 sb n i c W) (hg : w1.grownBy w2 (some g8)) (h : W.grownBy w1 (some g8) ∧ R) : RT W g8 b17 cx ss S2 sb n i c w2 := rt_full hn h0 (grown_trans h.1 hg)
end
theorem new_row' (w : World) (B : Nat) (hB : w.heap.size = B) (cs : Array Value) (T : TypeId) (fr : Nat × Nat) : ∀ j u, cs.toList[j]? = some u → (w.alloc (.cells cs T fr)).cell? ((⟨B, 0, none⟩ : Addr).add j) = some u := by
  intro j u h
  subst hB
  exact World.news_of_block (heap_alloc_new w (.cells cs T fr)) j u h
theorem encS_ones (C : Nat → Int) (i : Nat) : ∀ u ∈ encS C i, u.oneCell' = true := by
  intro u hu
  simp only [encS, List.mem_cons, List.not_mem_nil, or_false] at hu
  rcases hu with rfl | rfl | rfl | rfl <;> rfl
theorem own_below'' {w w' : World} {base : Nat} {e : TypeId} {size n : Nat} {v : Value} {xs : List Value} (h : w.ownsRow base e size v n xs) (hb : Below w.heap.size w w') : w'.ownsRow base e size v n xs := by
  refine ⟨h.1, ?_⟩
  rcases h.2 with h | ⟨g, cap, cur, rfl, h0, hgg, hr⟩
  · exact .inl h
  · exact .inr ⟨g, cap, cur, rfl, h0, (hb.block _ (Array.getElem?_eq_some_iff.1 hgg).1).trans hgg, hr⟩
theorem step_append_fits {P : Program} {ops : Array Oper} {o : Oper} {a : Act} {w : World} {K : Act → World → Prop} {Q : Exit → Act → World → Prop} {E : Prop}
    (hg : o.guard = none) (s x : Operand) (t : TypeId) (hop : o.op = Op.call { callee := Callee.builtin Builtin.append, args := #[s, x], argTypes := #[t, t] })
    (base : Nat) (e : TypeId) (i : TypeInfo) (size : Nat) (h1 : P.underlying t = some (.slice e)) (h2 : P.info? e = some i) (h4 : i.size = size)
    (g k cap : Nat) (xs : List Value) (hs : a.eval s = .slice (some ⟨g, 0, none⟩) k cap) (hown : w.ownsRow base e size (.slice (some ⟨g, 0, none⟩) k cap) k xs) (ad : Addr) (m c : Nat) (news : List Value) (hx : a.eval x = .slice (some ad) m c) (hn : news.length = m * size)
    (hc : ∀ j u, news[j]? = some u → w.cell? (ad.add j) = some u) (h1c : ∀ u ∈ news, u.oneCell' = true) (b1 : k + m ≤ cap)
    (hK : ∀ w', w'.ownsRow base e size (.slice (some ⟨g, 0, none⟩) (k + m) cap) (k + m) (xs ++ news) → w.grownBy w' (some g) → K (a.put o.dst (.slice (some ⟨g, 0, none⟩) (k + m) cap)) w') :
    if Region.wanted o (yielded ops a.tmps) = true then Oper.wp P o a w K Q else E := by
  have hw : Region.wanted o (yielded ops a.tmps) = true := by simp [Region.wanted, hg]
  rw [if_pos hw]
  obtain ⟨w', hrun, r1, r2⟩ := run_append_fits (P := P) w base t o.type e i size h1 h2 h4 g k cap xs hown ad m c news hn hc h1c b1
  unfold Oper.wp
  simp [execOp, hop, resolve, invoke, builtin, hs, hx, hrun, Result.andThen]
  exact hK w' r1 r2
theorem flat_snoc' {α : Type} (enc : α → List Value) (l : List α) (x : α) : flat enc (l ++ [x]) = flat enc l ++ enc x := by
  simp [flat]
theorem iter_seen {w : World} {r : Nat} {a : Option Nat} {b c : Nat} {s : Array Nat} (h : w.heap[r]? = some (.mapIter a b s c)) : w.iterSeen r = s := by
  unfold World.iterSeen
  rw [h]
theorem s7_drew {W : World} {b : Nat} {cs : List Value} (h : W.rangeAt b 0 cs) : Below W.heap.size W W.drew ∧ W.drew.rangeAt b 0 cs := ⟨(Below.refl _ _).drew, h⟩
theorem s7_call {W w1 w2 : World} {b : Nat} {cs : List Value} (hb : Below w1.heap.size w1 w2) (h : Below W.heap.size W w1 ∧ w1.rangeAt b 0 cs) : Below W.heap.size W w2 ∧ w2.rangeAt b 0 cs :=
  ⟨h.1.trans (hb.mono h.1.size), fun j v hv => (hb.cell (block_lt_of_cell (h.2 j v hv))).trans (h.2 j v hv)⟩
theorem s7_alloc {W w1 : World} {b : Nat} {cs : List Value} (ob : Obj) (h : Below W.heap.size W w1 ∧ w1.rangeAt b 0 cs) : Below W.heap.size W (w1.alloc ob) ∧ (w1.alloc ob).rangeAt b 0 cs := s7_call ((Below.refl _ _).alloc (Nat.le_refl _) _) h
theorem s7_set {W w1 : World} {b B : Nat} {cs : List Value} (h : Below W.heap.size W w1 ∧ w1.rangeAt b 0 cs) (hB : W.heap.size ≤ B) (hne : b ≠ B) (x y : Value) : Below W.heap.size W ((w1.setCell ⟨B, 0, none⟩ x).setCell ⟨B, 1, none⟩ y) ∧ ((w1.setCell ⟨B, 0, none⟩ x).setCell ⟨B, 1, none⟩ y).rangeAt b 0 cs :=
  ⟨(h.1.setCell (p := ⟨B, 0, none⟩) hB x).setCell (p := ⟨B, 1, none⟩) hB y, fun j v hv => by
    rw [World.cell?_setCell_other, World.cell?_setCell_other]
    · exact h.2 j v hv
    · exact fun e => hne (congrArg Addr.block e).symm
    · exact fun e => hne (congrArg Addr.block e).symm⟩
theorem sc_info : (Tryz.prog.info? 198).map (fun i => (i.zero, i.size, i.bytes)) = some (some (.agg #[.int .u32 0, .int .u32 0, .int .u32 0, .int .u32 0]), 4, 16) := by kernel_rfl
end Go.Proofs.YtokehapgddicjaaGreatFmt
