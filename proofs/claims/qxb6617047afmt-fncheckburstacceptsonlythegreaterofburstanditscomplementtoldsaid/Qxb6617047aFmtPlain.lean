/-
  The complement of an int, as a plain number.
-/
import Derived.Laws.BitsAllLaws
namespace Go.Proofs.Qxb6617047aFmt.burst

theorem not_any (n : Int) (h1 : -9223372036854775808 ≤ n) (h2 : n ≤ 9223372036854775807) : bits .xor .i64 (-1) n = -1 - n := by
  show IntKind.i64.wrap ((BitVec.ofInt 64 (-1) ^^^ BitVec.ofInt 64 n).toNat : Int) = _
  have e : BitVec.ofInt 64 (-1) = BitVec.allOnes 64 := by decide
  rw [e, BitVec.allOnes_xor, BitVec.toNat_not, BitVec.toNat_ofInt]
  simp only [IntKind.wrap, IntKind.bits, IntKind.signed]
  have p : (2 : Int) ^ 64 = 18446744073709551616 := by decide
  have q : (2 : Int) ^ (64 - 1) = 9223372036854775808 := by decide
  have r : (2 : Nat) ^ 64 = 18446744073709551616 := by decide
  simp only [p, q, r, Bool.true_and, decide_eq_true_eq]
  split <;> omega
end Go.Proofs.Qxb6617047aFmt.burst
