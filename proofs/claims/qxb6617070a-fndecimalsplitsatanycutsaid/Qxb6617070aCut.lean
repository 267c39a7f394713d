/-
  Cutting a slice of bytes, as facts for the walk: the address of the cut is left abstract.
-/
import Derived.Test.Qxb6617070aProg
import Derived.Test.Qxb6617070aSl
namespace Go.Proofs.Qxb6617070a
open Go.RowKit
set_option linter.unusedSimpArgs false
set_option linter.unusedVariables false

theorem Sl.run_lh {w : World} {a : Option Addr} {n c : Nat} {zs : List Int} (s : Sl w a n c zs) (l h : Nat) (L H : Int) (hL : L = (l : Int)) (hH : H = (h : Int)) (n' c' : Nat) (hlh : l ≤ h) (hh : h ≤ n) (hn : n' = h - l) (hc : c' = c - l) :
    ∃ A, Sl w A n' c' ((zs.take h).drop l) ∧ ∀ wx, (Instr.slice 22 (.slice a n c) (some (.int .i64 L)) (some (.int .i64 H)) none).run Try.prog wx = .ok (.slice A n' c') wx := by
  subst hn; subst hc; subst hL; subst hH
  refine ⟨if c = l then a else a.map (·.add (l * 1)), s.cut l h hlh hh (fun b off e hc => by subst e; rw [if_neg hc]; simp [Addr.add]), fun wx => ?_⟩
  have hle := s.le
  have hsz : (sizeOf (Try.prog.elem 22)).run Try.prog wx = .ok 1 wx := by kernel_rfl
  rw [run_slice_lh (P := Try.prog) wx 22 a n c (by kernel_rfl) .i64 .i64 l h (by omega) (by omega) (by omega), hsz]
  simp [Result.andThen, sliced]

theorem Sl.run_l {w : World} {a : Option Addr} {n c : Nat} {zs : List Int} (s : Sl w a n c zs) (l : Nat) (L : Int) (hL : L = (l : Int)) (n' c' : Nat) (hl : l ≤ n) (hn : n' = n - l) (hc : c' = c - l) :
    ∃ A, Sl w A n' c' (zs.drop l) ∧ ∀ wx, (Instr.slice 22 (.slice a n c) (some (.int .i64 L)) none none).run Try.prog wx = .ok (.slice A n' c') wx := by
  subst hn; subst hc; subst hL
  refine ⟨if c = l then a else a.map (·.add (l * 1)), ?_, fun wx => ?_⟩
  · have := s.cut l n hl (Nat.le_refl _) (a' := if c = l then a else a.map (·.add (l * 1))) (fun b off e hc => by subst e; rw [if_neg hc]; simp [Addr.add])
    rwa [List.take_of_length_le (by rw [s.len]; exact Nat.le_refl _)] at this
  · have hsz : (sizeOf (Try.prog.elem 22)).run Try.prog wx = .ok 1 wx := by kernel_rfl
    rw [run_slice_l (P := Try.prog) wx 22 a n c (by kernel_rfl) .i64 l (by omega) (by omega), hsz]
    simp [Result.andThen, sliced]

theorem Sl.run_h {w : World} {a : Option Addr} {n c : Nat} {zs : List Int} (s : Sl w a n c zs) (h : Nat) (H : Int) (hH : H = (h : Int)) (hh : h ≤ n) :
    ∃ A, Sl w A h c (zs.take h) ∧ ∀ wx, (Instr.slice 22 (.slice a n c) none (some (.int .i64 H)) none).run Try.prog wx = .ok (.slice A h c) wx := by
  subst hH
  refine ⟨if c = 0 then a else a.map (·.add (0 * 1)), ?_, fun wx => ?_⟩
  · exact s.cut 0 h (Nat.zero_le _) hh (a' := if c = 0 then a else a.map (·.add (0 * 1))) (fun b off e hc => by subst e; rw [if_neg hc]; simp [Addr.add])
  · have hle := s.le
    have hsz : (sizeOf (Try.prog.elem 22)).run Try.prog wx = .ok 1 wx := by kernel_rfl
    rw [run_slice_h (P := Try.prog) wx 22 a n c (by kernel_rfl) .i64 h (by omega) (by omega), hsz]
    simp [Result.andThen, sliced]
end Go.Proofs.Qxb6617070a
