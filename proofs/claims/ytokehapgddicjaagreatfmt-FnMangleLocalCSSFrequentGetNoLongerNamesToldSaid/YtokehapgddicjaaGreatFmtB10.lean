/- The types of the program are laid out as the model reckons: looked at in parts, for the kernel's memory. -/
import Derived.Test.YtokehapgddicjaaGreatFmtProg
import Derived.OpenShut
namespace Go.Proofs.YtokehapgddicjaaGreatFmt
theorem all_parts {f : Nat → Bool} {n m k : Nat} (hk : 0 < k) (h : ∀ c, c < m → (List.range' (c * k) k).all f = true) (hn : n ≤ m * k) : (List.range n).all f = true := by
  refine List.all_eq_true.2 fun t ht => ?_
  have h1 := List.mem_range.1 ht
  have h2 : t / k < m := Nat.div_lt_of_lt_mul (by rw [Nat.mul_comm]; omega)
  have h3 := Nat.div_mul_le_self t k
  have h4 := Nat.lt_div_mul_add (a := t) hk
  exact List.all_eq_true.1 (h (t / k) h2) t (List.mem_range'_1.2 ⟨h3, h4⟩)
theorem types_few : decide (Tryz.prog.types.size ≤ 768) = true := by kernel_rfl
theorem part0 : (List.range' (0 * 32) 32).all (rowFine Tryz.prog) = true := by kernel_rfl
theorem part1 : (List.range' (1 * 32) 32).all (rowFine Tryz.prog) = true := by kernel_rfl
theorem part2 : (List.range' (2 * 32) 32).all (rowFine Tryz.prog) = true := by kernel_rfl
theorem part3 : (List.range' (3 * 32) 32).all (rowFine Tryz.prog) = true := by kernel_rfl
theorem part4 : (List.range' (4 * 32) 32).all (rowFine Tryz.prog) = true := by kernel_rfl
theorem part5 : (List.range' (5 * 32) 32).all (rowFine Tryz.prog) = true := by kernel_rfl
theorem part6 : (List.range' (6 * 32) 32).all (rowFine Tryz.prog) = true := by kernel_rfl
theorem part7 : (List.range' (7 * 32) 32).all (rowFine Tryz.prog) = true := by kernel_rfl
theorem part8 : (List.range' (8 * 32) 32).all (rowFine Tryz.prog) = true := by kernel_rfl
theorem part9 : (List.range' (9 * 32) 32).all (rowFine Tryz.prog) = true := by kernel_rfl
theorem part10 : (List.range' (10 * 32) 32).all (rowFine Tryz.prog) = true := by kernel_rfl
theorem part11 : (List.range' (11 * 32) 32).all (rowFine Tryz.prog) = true := by kernel_rfl
theorem part12 : (List.range' (12 * 32) 32).all (rowFine Tryz.prog) = true := by kernel_rfl
theorem part13 : (List.range' (13 * 32) 32).all (rowFine Tryz.prog) = true := by kernel_rfl
theorem part14 : (List.range' (14 * 32) 32).all (rowFine Tryz.prog) = true := by kernel_rfl
theorem part15 : (List.range' (15 * 32) 32).all (rowFine Tryz.prog) = true := by kernel_rfl
theorem part16 : (List.range' (16 * 32) 32).all (rowFine Tryz.prog) = true := by kernel_rfl
theorem part17 : (List.range' (17 * 32) 32).all (rowFine Tryz.prog) = true := by kernel_rfl
theorem part18 : (List.range' (18 * 32) 32).all (rowFine Tryz.prog) = true := by kernel_rfl
theorem part19 : (List.range' (19 * 32) 32).all (rowFine Tryz.prog) = true := by kernel_rfl
theorem part20 : (List.range' (20 * 32) 32).all (rowFine Tryz.prog) = true := by kernel_rfl
theorem part21 : (List.range' (21 * 32) 32).all (rowFine Tryz.prog) = true := by kernel_rfl
theorem part22 : (List.range' (22 * 32) 32).all (rowFine Tryz.prog) = true := by kernel_rfl
theorem part23 : (List.range' (23 * 32) 32).all (rowFine Tryz.prog) = true := by kernel_rfl
theorem rows_fine : (List.range Tryz.prog.types.size).all (rowFine Tryz.prog) = true :=
  all_parts (m := 24) (k := 32) (by decide) (fun c hc => match c, hc with
    | 0, _ => part0
    | 1, _ => part1
    | 2, _ => part2
    | 3, _ => part3
    | 4, _ => part4
    | 5, _ => part5
    | 6, _ => part6
    | 7, _ => part7
    | 8, _ => part8
    | 9, _ => part9
    | 10, _ => part10
    | 11, _ => part11
    | 12, _ => part12
    | 13, _ => part13
    | 14, _ => part14
    | 15, _ => part15
    | 16, _ => part16
    | 17, _ => part17
    | 18, _ => part18
    | 19, _ => part19
    | 20, _ => part20
    | 21, _ => part21
    | 22, _ => part22
    | 23, _ => part23
    | n + 24, h => absurd h (by omega)) (of_decide_eq_true types_few)
theorem globs_fine : Tryz.prog.globals.all (fun g => decide (g.type < Tryz.prog.types.size)) = true := by kernel_rfl
theorem funcs_fine : Tryz.prog.funcs.all (fun f => f.params.all fun t => decide (t < Tryz.prog.types.size)) = true := by kernel_rfl
theorem laidOutB_prog : laidOutB Tryz.prog = true := by
  unfold laidOutB
  rw [rows_fine, globs_fine, funcs_fine]
  rfl
end Go.Proofs.YtokehapgddicjaaGreatFmt
