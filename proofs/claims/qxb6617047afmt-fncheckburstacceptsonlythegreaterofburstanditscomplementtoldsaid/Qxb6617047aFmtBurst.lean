/-
  The walks over checkBurst, ZZcheckBurst and the law over them.
-/
import Derived.Test.Qxb6617047aFmtFacts
import Derived.Test.Qxb6617047aFmtPlain
import Derived.WalkKit
import Derived.WalkLawsBesides
import Derived.Below
namespace Go.Proofs.Qxb6617047aFmt.burst
open Go.RowKit Go.Extern.Stop Go.Stop Go.Extern
attribute [local go_sem] call12 guard fmt0 fmt0r op3_100 op3_100w strict3 ptr37 elem37 isError37

/-- Below zero: some error, not nil; nothing old has turned. -/
theorem check_low (F : Interp) (n : Int) (w : World) (hF : F.answers w.tape) (hn : n < 0) :
    Calls Tryf.prog 10 #[.int .i64 n] w fun e w' => (∃ k, e = .returned (.iface 37 (.pointer (some ⟨k, 0, none⟩)))) ∧ Below w.heap.size w w' := by
  have hF' := hF
  unfold Interp.answers at hF'
  go_enter Tryf.func10, Tryf.ntmps10
  go_wp2
  go_ret
  exact ⟨⟨_, rfl⟩, (((Below.refl _ _).alloc (Nat.le_refl _) _).alloc (by simp) _).drew⟩

/-- Not below zero: nil. -/
theorem check_ok (n : Int) (w : World) (hn : ¬ n < 0) :
    Calls Tryf.prog 10 #[.int .i64 n] w fun e w' => e = .returned .nilIface ∧ w' = w := by
  go_enter Tryf.func10, Tryf.ntmps10
  go_wp2
  go_ret
  exact ⟨rfl, rfl⟩

theorem zz_low (F : Interp) (n : Int) (w : World) (hF : F.answers w.tape) (hn : n < 0) :
    Calls Tryf.prog 7 #[.int .i64 n] w fun e w' => (∃ k, e = .returned (.iface 37 (.pointer (some ⟨k, 0, none⟩)))) ∧ Below w.heap.size w w' := by
  go_enter Tryf.func7, Tryf.ntmps7
  go_wp2_with (go_at_call 10; refine (check_low F n _ hF hn).mono ?_; rintro e w' ⟨⟨k, rfl⟩, hb⟩)
  go_ret
  exact ⟨⟨_, rfl⟩, hb⟩

theorem zz_ok (n : Int) (w : World) (hn : ¬ n < 0) :
    Calls Tryf.prog 7 #[.int .i64 n] w fun e w' => e = .returned .nilIface ∧ w' = w := by
  go_enter Tryf.func7, Tryf.ntmps7
  go_wp2_with (go_at_call 10; refine (check_ok n _ hn).mono ?_; rintro e w' ⟨rfl, rfl⟩)
  go_ret
  exact ⟨rfl, rfl⟩

/-- The law, burst below zero. -/
theorem law_low (F : Interp) (n : Int) (w : World) (hF : F.answers w.tape) (hn : n < 0) (hlo : -9223372036854775808 ≤ n) :
    Calls Tryf.prog 4 #[.int .i64 n] w fun e w' => e = .returned (.bool true) ∧ Below w.heap.size w w' := by
  have hx := not_any n hlo (by omega)
  have d1 : decide (-1 - n < n) = false := decide_eq_false (by omega)
  have d2 : n < -1 - n := by omega
  go_enter Tryf.func4, Tryf.ntmps4
  go_wp2_with fail
  refine (zz_low F n _ hF hn).mono ?_
  rintro e w' ⟨⟨k, rfl⟩, hb⟩
  go_wp2_with fail
  refine (zz_ok _ _ (by omega)).mono ?_
  rintro e w' ⟨rfl, rfl⟩
  go_wp2
  go_ret
  exact ⟨rfl, hb⟩

/-- The law, burst not below zero. -/
theorem law_ok (F : Interp) (n : Int) (w : World) (hF : F.answers w.tape) (hn : ¬ n < 0) (hhi : n ≤ 9223372036854775807) :
    Calls Tryf.prog 4 #[.int .i64 n] w fun e w' => e = .returned (.bool true) ∧ Below w.heap.size w w' := by
  have hx := not_any n (by omega) hhi
  have d1 : -1 - n < n := by omega
  have d2 : decide (n < -1 - n) = false := decide_eq_false (by omega)
  go_enter Tryf.func4, Tryf.ntmps4
  go_wp2_with fail
  refine (zz_ok n _ (by omega)).mono ?_
  rintro e w' ⟨rfl, rfl⟩
  go_wp2_with fail
  refine (zz_low F _ _ hF (by omega)).mono ?_
  rintro e w' ⟨⟨k, rfl⟩, hb⟩
  go_wp2
  go_ret
  exact ⟨rfl, hb⟩

/-- The law at every int. -/
theorem law_any (F : Interp) (n : Int) (w : World) (hF : F.answers w.tape) (hlo : -9223372036854775808 ≤ n) (hhi : n ≤ 9223372036854775807) :
    Calls Tryf.prog 4 #[.int .i64 n] w fun e w' => e = .returned (.bool true) ∧ Below w.heap.size w w' := by
  by_cases hn : n < 0
  · exact law_low F n w hF hn hlo
  · exact law_ok F n w hF hn hhi
end Go.Proofs.Qxb6617047aFmt.burst
