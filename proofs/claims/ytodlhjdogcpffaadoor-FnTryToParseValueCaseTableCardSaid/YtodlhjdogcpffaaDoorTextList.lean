/- Texts as lists of bytes. -/
import Derived.Test.YtodlhjdogcpffaaDoorDigs
namespace Go.Proofs.YtodlhjdogcpffaaDoor

def txt (l : List UInt8) : ByteArray := ⟨l.toArray⟩
theorem txt_size (l : List UInt8) : (txt l).size = l.length := by show l.toArray.size = _; simp
theorem txt_append (a b : List UInt8) : txt a ++ txt b = txt (a ++ b) := by
  apply ByteArray.ext
  rw [ByteArray.data_append]
  unfold txt
  simp
theorem txt_extract (l : List UInt8) (i j : Nat) : (txt l).extract i j = txt ((l.take j).drop i) := by
  apply ByteArray.ext
  rw [ByteArray.data_extract]
  unfold txt
  simp [List.extract, List.drop_take]
theorem txt_get (l : List UInt8) (i : Nat) (h : i < (txt l).size) : (txt l)[i] = l[i]'(by rw [txt_size] at h; exact h) := rfl
theorem txt_of (s : ByteArray) : s = txt s.data.toList := by
  apply ByteArray.ext; unfold txt; simp

theorem digs_split (v a b : Nat) : digs v (a + b) = digs (v / 10 ^ b) a ++ digs v b := by
  induction a with
  | zero => simp [digs]
  | succ a ih =>
    rw [Nat.succ_add, digs, digs, ih, List.cons_append]
    congr 3
    rw [Nat.div_div_eq_div_mul, ← Nat.pow_add, Nat.add_comm b a]
theorem digs_pad (v n : Nat) (h : v < 10 ^ n) : digs v (n + 1) = 48 :: digs v n := by
  rw [digs, Nat.div_eq_of_lt h]; rfl
theorem digs_take (v a b : Nat) : (digs v (a + b)).take a = digs (v / 10 ^ b) a := by
  rw [digs_split, List.take_left' (digs_length _ _)]
theorem digs_drop (v a b : Nat) : (digs v (a + b)).drop a = digs v b := by
  rw [digs_split, List.drop_left' (digs_length _ _)]
end Go.Proofs.YtodlhjdogcpffaaDoor
