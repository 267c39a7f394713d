/-
  A digit ahead of and behind a row of digits: plain mathematics.
-/
import Derived.Test.Qxb6617088aMath
namespace Go.Proofs.Qxb6617088a

theorem dv_digit (c : UInt8) (h1 : 48 ≤ (c.toNat : Int)) (h2 : (c.toNat : Int) ≤ 57) : dv c = (c.toNat : Int) - 48 := by unfold dv; omega

theorem pow_split (m n : Nat) (h : m ≤ n) : (10 : Int) ^ m * 10 ^ (n - m) = 10 ^ n := by
  rw [← Int.pow_add]; congr 1; omega

/-- A byte in front. -/
theorem nano_front (c : UInt8) (l : List UInt8) (hd : ∀ x ∈ l, 0 ≤ dv x ∧ dv x ≤ 9) : nano (c :: l) = dv c * 100000000 + nano l / 10 := by
  rw [nano_eq, nano_eq]
  have e8 : (10 : Int) ^ 8 = 100000000 := by decide
  rw [List.take_succ_cons, val_cons, List.length_take, List.length_cons]
  have ee : 9 - min 9 (l.length + 1) = 8 - min 8 l.length := by omega
  rw [ee, Int.add_mul, Int.mul_assoc, pow_split (min 8 l.length) 8 (by omega), e8]
  congr 1
  rcases Nat.lt_or_ge l.length 9 with h | h
  · rw [List.take_of_length_le (show l.length ≤ 8 by omega), List.take_of_length_le (show l.length ≤ 9 by omega)]
    have e1 : 9 - min 9 l.length = 8 - min 8 l.length + 1 := by omega
    rw [e1, Int.pow_succ, ← Int.mul_assoc, Int.mul_ediv_cancel _ (by omega)]
  · have e1 : 9 - min 9 l.length = 0 := by omega
    have e2 : 8 - min 8 l.length = 0 := by omega
    rw [e1, e2]
    have h8 : 8 < l.length := by omega
    have ht : l.take 9 = l.take 8 ++ [l[8]] := List.take_succ_eq_append_getElem h8
    rw [ht, val_snoc]
    have hx := hd l[8] (List.getElem_mem h8)
    simp only [Int.pow_zero, Int.mul_one]
    omega

/-- A byte behind, fewer than nine ahead of it. -/
theorem nano_back (c : UInt8) (l : List UInt8) (h : l.length ≤ 8) : nano (l ++ [c]) = nano l + dv c * 10 ^ (8 - l.length) := by
  rw [nano_eq, nano_eq]
  rw [List.take_of_length_le (show (l ++ [c]).length ≤ 9 by simp; omega), List.take_of_length_le (show l.length ≤ 9 by omega), val_snoc]
  have e1 : 9 - min 9 (l ++ [c]).length = 8 - l.length := by simp; omega
  have e2 : 9 - min 9 l.length = 8 - l.length + 1 := by omega
  rw [e1, e2, Int.pow_succ, Int.add_mul]
  congr 1
  rw [Int.mul_assoc, Int.mul_comm 10]

/-- A byte behind nine or more. -/
theorem nano_past (c : UInt8) (l : List UInt8) (h : 9 ≤ l.length) : nano (l ++ [c]) = nano l := by
  rw [nano_eq, nano_eq]
  rw [List.take_append_of_le_length h]
  congr 2
  simp
  omega
end Go.Proofs.Qxb6617088a
