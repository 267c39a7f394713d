/-
  The law FnDecimalMatchesPositionalModel: the walk.
-/
import Derived.Test.Qxb6617070aDec
import Derived.Test.Qxb6617070aCopy
namespace Go.Proofs.Qxb6617070a
open Go.RowKit
set_option linter.unusedSimpArgs false
set_option linter.unusedVariables false

theorem lawA_great (a : Option Addr) (n c : Nat) (w : World) (h : 65536 < n) (hm : n ≤ maxLen) :
    Calls Try.prog 3 #[.slice a n c] w fun e w' => e = .returned (.bool true) ∧ Below w.heap.size w w' := by
  unfold maxLen at hm
  by_cases h2 : 1048576 < n
  · go_enter Try.func3, Try.ntmps3
    go_wp2
    go_ret
    exact ⟨rfl, Below.refl _ _⟩
  · go_enter Try.func3, Try.ntmps3
    go_wp2
    go_ret
    exact ⟨rfl, Below.refl _ _⟩

theorem lawA_nil (w : World) :
    Calls Try.prog 3 #[.slice none 0 0] w fun e w' => e = .returned (.bool true) ∧ Below w.heap.size w w' := by
  have s : Sl w none 0 0 [] := ⟨rfl, Nat.le_refl _, by omega, fun i h => absurd h (by omega), fun h => absurd h (by omega)⟩
  go_enter Try.func3, Try.ntmps3
  go_wp2_with (first | (go_at_call 9; refine (zzdecimal_any _ _ _ [] _ s).mono ?_; rintro e w' ⟨rfl, rfl⟩) | (go_at_call 10; refine (model_any _ _ _ [] _ s).mono ?_; rintro e w' ⟨rfl, rfl⟩) | go_in)
  go_ret
  exact ⟨rfl, Below.refl _ _⟩

theorem lawA_row (x : Addr) (n c : Nat) (zs : List Int) (w : World) (hn : n ≤ 65536) (hlen : zs.length = n) (hb : ∀ i, i < n → 0 ≤ zs.getD i 0 ∧ zs.getD i 0 ≤ 255)
    (hcell : ∀ i, i < n → w.cell? (x.add i) = some (.int .u8 (zs.getD i 0))) :
    Calls Try.prog 3 #[.slice (some x) n c] w fun e w' => e = .returned (.bool true) ∧ Below w.heap.size w w' := by
  have hmk := made n hn
  have hnn := fun w => run_neq_slice_nil_any (P := Try.prog) w 22 5 (some x) n c 0 0 Try.underlying22
  have HL : Hid (zs.length = n) := hlen
  have HB : Hid (∀ i, i < n → 0 ≤ zs.getD i 0 ∧ zs.getD i 0 ≤ 255) := hb
  have HC : Hid (∀ i, i < n → w.cell? (x.add i) = some (.int .u8 (zs.getD i 0))) := hcell
  clear hlen hb hcell
  obtain ⟨w2, hcp, s, hbel⟩ := copied x n c zs w hn HL.out HB.out HC.out
  go_enter Try.func3, Try.ntmps3
  go_wp2_with (first | (go_at_call 9; refine (zzdecimal_any _ _ _ zs _ s).mono ?_; rintro e w' ⟨rfl, rfl⟩) | (go_at_call 10; refine (model_any _ _ _ zs _ s).mono ?_; rintro e w' ⟨rfl, rfl⟩) | (go_at_call 8; go_in))
  go_ret
  exact ⟨rfl, hbel⟩
end Go.Proofs.Qxb6617070a
