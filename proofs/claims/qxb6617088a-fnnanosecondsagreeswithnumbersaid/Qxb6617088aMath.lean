/-
  Plain mathematics for the laws over number and nanoseconds: no Go in sight but int's own wrapping.
-/
import Derived.RowKit
namespace Go.Proofs.Qxb6617088a
open Go.RowKit

/-- The digit value of a byte: byte - '0', as a byte. -/
def dv (c : UInt8) : Int := ((c.toNat : Int) - 48) % 256
/-- What a row of bytes says in decimal, unbounded. -/
def val (l : List UInt8) : Int := l.foldl (fun n c => n * 10 + dv c) 0
/-- The same in int's own wrapping arithmetic. -/
def numb (l : List UInt8) : Int := wrap64 (val l)
/-- A power of ten in int's own wrapping arithmetic. -/
def pw (k : Nat) : Int := wrap64 (10 ^ k)

theorem wrap_off (x : Int) : ∃ k : Int, wrap64 x = x + k * 18446744073709551616 := by
  refine ⟨-((x + 9223372036854775808) / 18446744073709551616), ?_⟩
  unfold wrap64; omega
theorem wrap_congr {x y : Int} (k : Int) (h : x = y + k * 18446744073709551616) : wrap64 x = wrap64 y := by
  subst h; unfold wrap64
  have : y + k * 18446744073709551616 + 9223372036854775808 = y + 9223372036854775808 + k * 18446744073709551616 := by omega
  rw [this, Int.add_mul_emod_self_right]
theorem wrap_small {x : Int} (h1 : -9223372036854775808 ≤ x) (h2 : x ≤ 9223372036854775807) : wrap64 x = x := by unfold wrap64; omega

theorem wrap_mul (a b : Int) : wrap64 (wrap64 a * wrap64 b) = wrap64 (a * b) := by
  obtain ⟨i, hi⟩ := wrap_off a
  obtain ⟨j, hj⟩ := wrap_off b
  rw [hi, hj]
  refine wrap_congr (a * j + i * b + i * j * 18446744073709551616) ?_
  generalize (18446744073709551616 : Int) = M
  rw [Int.add_mul, Int.mul_add, Int.mul_add, Int.add_mul, Int.add_mul]
  have e1 : a * (j * M) = a * j * M := (Int.mul_assoc a j M).symm
  have e2 : i * M * b = i * b * M := by rw [Int.mul_assoc, Int.mul_comm M b, ← Int.mul_assoc]
  have e3 : i * M * (j * M) = i * j * M * M := by rw [Int.mul_assoc, ← Int.mul_assoc M j M, Int.mul_comm M j, ← Int.mul_assoc, ← Int.mul_assoc]
  rw [e1, e2, e3]
  omega
theorem wrap_add (a b : Int) : wrap64 (wrap64 a + b) = wrap64 (a + b) := by
  obtain ⟨i, hi⟩ := wrap_off a
  rw [hi]
  exact wrap_congr i (by omega)
theorem wrap_add' (a b : Int) : wrap64 (a + wrap64 b) = wrap64 (a + b) := by
  rw [Int.add_comm, wrap_add, Int.add_comm]
theorem wrap_ten (a : Int) : wrap64 (wrap64 a * 10) = wrap64 (a * 10) := by
  obtain ⟨i, hi⟩ := wrap_off a
  rw [hi]
  exact wrap_congr (i * 10) (by omega)

theorem val_nil : val [] = 0 := rfl
theorem val_snoc (l : List UInt8) (c : UInt8) : val (l ++ [c]) = val l * 10 + dv c := by
  unfold val; rw [List.foldl_append]; rfl
theorem fold_acc (l : List UInt8) : ∀ acc : Int, l.foldl (fun n c => n * 10 + dv c) acc = acc * 10 ^ l.length + val l := by
  induction l with
  | nil => intro acc; simp [val]
  | cons d t ih =>
    intro acc
    rw [List.foldl_cons, ih]
    have e : val (d :: t) = (0 * 10 + dv d) * 10 ^ t.length + val t := by
      show List.foldl _ _ t = _
      rw [ih]
    rw [e, List.length_cons, Int.pow_succ, Int.add_mul]
    have f : acc * (10 ^ t.length * 10) = acc * 10 * 10 ^ t.length := by
      rw [Int.mul_assoc acc 10, Int.mul_comm 10]
    rw [f]; simp; omega
theorem val_append (a b : List UInt8) : val (a ++ b) = val a * 10 ^ b.length + val b := by
  unfold val; rw [List.foldl_append, fold_acc]; rfl
theorem val_cons (d : UInt8) (t : List UInt8) : val (d :: t) = dv d * 10 ^ t.length + val t := by
  have h := val_append [d] t
  have e : val [d] = dv d := by simp [val]
  rw [e] at h; exact h

theorem numb_snoc (l : List UInt8) (c : UInt8) : numb (l ++ [c]) = wrap64 (wrap64 (numb l * 10) + dv c) := by
  unfold numb
  rw [val_snoc, wrap_ten, wrap_add]
theorem pw_zero : pw 0 = 1 := by simp [pw, wrap64]
theorem pw_succ (k : Nat) : pw (k + 1) = wrap64 (pw k * 10) := by
  unfold pw
  rw [wrap_ten, Int.pow_succ]
theorem numb_append (a b : List UInt8) : numb (a ++ b) = wrap64 (wrap64 (numb a * pw b.length) + numb b) := by
  unfold numb pw
  rw [wrap_mul, wrap_add, wrap_add', val_append]
theorem numb_nil : numb [] = 0 := by simp [numb, val, wrap64]

theorem pow_pos' (k : Nat) : (0 : Int) < 10 ^ k := Int.pow_pos (by omega)
theorem pow_le (a b : Nat) (h : a ≤ b) : (10 : Int) ^ a ≤ 10 ^ b := by
  obtain ⟨c, rfl⟩ := Nat.le.dest h
  rw [Int.pow_add]
  have h1 := pow_pos' a
  have h2 := pow_pos' c
  have : (10 : Int) ^ a * 1 ≤ 10 ^ a * 10 ^ c := Int.mul_le_mul_of_nonneg_left (by omega) (by omega)
  omega
theorem dv_bd (c : UInt8) : 0 ≤ dv c ∧ dv c ≤ 255 := by unfold dv; omega
theorem val_bd (l : List UInt8) : 0 ≤ val l ∧ val l ≤ 29 * 10 ^ l.length - 29 := by
  induction l with
  | nil => simp [val]
  | cons d t ih =>
    have hd := dv_bd d
    rw [val_cons, List.length_cons, Int.pow_succ]
    have hp := pow_pos' t.length
    have h1 : 0 ≤ dv d * 10 ^ t.length := Int.mul_nonneg (by omega) (by omega)
    have h2 : dv d * 10 ^ t.length ≤ 255 * 10 ^ t.length := Int.mul_le_mul_of_nonneg_right (by omega) (by omega)
    omega
theorem numb_small (l : List UInt8) (h : l.length ≤ 9) : numb l = val l := by
  have hb := val_bd l
  have hp := pow_le l.length 9 h
  have h9 : (10 : Int) ^ 9 = 1000000000 := by decide
  exact wrap_small (by omega) (by omega)
theorem pw_small (k : Nat) (h : k ≤ 18) : pw k = 10 ^ k := by
  have hp := pow_le k 18 h
  have hpp := pow_pos' k
  have h18 : (10 : Int) ^ 18 = 1000000000000000000 := by decide
  exact wrap_small (by omega) (by omega)

/-- The first i rounds of nanoseconds. -/
def nanoAt (l : List UInt8) (i : Nat) : Int := val (l.take i) * 10 ^ (i - min i l.length)
def nano (l : List UInt8) : Int := nanoAt l 9
theorem nanoAt_zero (l : List UInt8) : nanoAt l 0 = 0 := by simp [nanoAt, val]
theorem nanoAt_in (l : List UInt8) (i : Nat) (h : i < l.length) : nanoAt l (i + 1) = nanoAt l i * 10 + dv (l[i]'h) := by
  unfold nanoAt
  rw [List.take_succ_eq_append_getElem h, val_snoc]
  have e1 : i + 1 - min (i + 1) l.length = 0 := by omega
  have e2 : i - min i l.length = 0 := by omega
  rw [e1, e2]; simp
theorem nanoAt_out (l : List UInt8) (i : Nat) (h : l.length ≤ i) : nanoAt l (i + 1) = nanoAt l i * 10 := by
  unfold nanoAt
  rw [List.take_of_length_le (by omega), List.take_of_length_le h]
  have e : i + 1 - min (i + 1) l.length = i - min i l.length + 1 := by omega
  rw [e, Int.pow_succ, Int.mul_assoc]
theorem nanoAt_bd (l : List UInt8) (i : Nat) : 0 ≤ nanoAt l i ∧ nanoAt l i ≤ 29 * 10 ^ i := by
  unfold nanoAt
  have hb := val_bd (l.take i)
  have hp := pow_pos' (i - min i l.length)
  have hl : (l.take i).length = min i l.length := List.length_take
  rw [hl] at hb
  have e : (10 : Int) ^ i = 10 ^ min i l.length * 10 ^ (i - min i l.length) := by
    rw [← Int.pow_add]; congr 1; omega
  refine ⟨Int.mul_nonneg hb.1 (by omega), ?_⟩
  rw [e, ← Int.mul_assoc]
  exact Int.mul_le_mul_of_nonneg_right (by omega) (by omega)
theorem nano_eq (l : List UInt8) : nano l = val (l.take 9) * 10 ^ (9 - min 9 l.length) := rfl
end Go.Proofs.Qxb6617088a
