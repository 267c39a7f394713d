/-
  The law FnDecimalSplitsAtAnyCut: the walk.
-/
import Derived.Test.Qxb6617070aDig
import Derived.Test.Qxb6617070aCopy
import Derived.Test.Qxb6617070aCut
import Derived.Deep.QuietTactic
import Derived.BigQuiet
namespace Go.Proofs.Qxb6617070a
open Go.RowKit
set_option linter.unusedSimpArgs false
set_option linter.unusedVariables false

theorem lawD_great (a : Option Addr) (n c : Nat) (k : Int) (w : World) (h : 65536 < n) (hm : n ≤ maxLen) :
    Calls Try.prog 4 #[.slice a n c, .int .i64 k] w fun e w' => e = .returned (.bool true) ∧ Below w.heap.size w w' := by
  unfold maxLen at hm
  by_cases h2 : 1048576 < n
  · go_enter Try.func4, Try.ntmps4
    go_wp2
    go_ret
    exact ⟨rfl, Below.refl _ _⟩
  · go_enter Try.func4, Try.ntmps4
    go_wp2
    go_ret
    exact ⟨rfl, Below.refl _ _⟩

theorem lawD_out (a : Option Addr) (n c : Nat) (k : Int) (w : World) (hn : n ≤ 65536) (h : k < 0 ∨ (n : Int) < k) :
    Calls Try.prog 4 #[.slice a n c, .int .i64 k] w fun e w' => e = .returned (.bool true) ∧ Below w.heap.size w w' := by
  by_cases h2 : k < 0
  · go_enter Try.func4, Try.ntmps4
    go_wp2
    go_ret
    exact ⟨rfl, Below.refl _ _⟩
  · have h3 : (n : Int) < k := by omega
    have d : decide (k < 0) = false := decide_eq_false h2
    clear h h2
    go_enter Try.func4, Try.ntmps4
    go_wp2
    go_ret
    exact ⟨rfl, Below.refl _ _⟩

set_option maxRecDepth 100000 in
/-- The nil text. -/
theorem lawD_nil (w : World) :
    Calls Try.prog 4 #[.slice none 0 0, .int .i64 0] w fun e w' => e = .returned (.bool true) ∧ Below w.heap.size w w' := by
  have s : Sl w none 0 0 [] := ⟨rfl, Nat.le_refl _, by omega, fun i h => absurd h (by omega), fun h => absurd h (by omega)⟩
  have S := hideD s
  have hok : Dec.okB [] = false := rfl
  have hnum : Dec.num [] = 0 := rfl
  have HO := hideD hok
  have HN := hideD hnum
  clear s hok hnum
  go_enter Try.func4, Try.ntmps4
  go_wp2_with (first | (go_at_call 9; refine (zzdecimal_any _ _ _ [] _ S.out).mono ?_; rw [HO.out, HN.out]; rintro e w' ⟨rfl, rfl⟩) | (go_at_call 11; go_in))
  go_ret
  exact ⟨rfl, Below.refl _ _⟩

set_option maxHeartbeats 1600000 in
theorem lawD_bad (x : Addr) (n c k : Nat) (zs : List Int) (w : World) (hn : n ≤ 65536) (hk : k ≤ n) (hlen : zs.length = n) (hb : ∀ i, i < n → 0 ≤ zs.getD i 0 ∧ zs.getD i 0 ≤ 255)
    (hcell : ∀ i, i < n → w.cell? (x.add i) = some (.int .u8 (zs.getD i 0))) (hbad : Dec.okB zs = false) :
    Calls Try.prog 4 #[.slice (some x) n c, .int .i64 (k : Int)] w fun e w' => e = .returned (.bool true) ∧ Below w.heap.size w w' := by
  have hmk := made n hn
  have h65 : decide ((65536 : Int) < (n : Int)) = false := decide_eq_false (by omega)
  have hnn := fun w => run_neq_slice_nil_any (P := Try.prog) w 22 5 (some x) n c 0 0 Try.underlying22
  obtain ⟨w2, hcp, s, hbel⟩ := copied x n c zs w hn hlen hb hcell
  obtain ⟨A1, s1, r1⟩ := s.run_h k (k : Int) rfl hk
  obtain ⟨A2, s2, r2⟩ := s.run_l k (k : Int) rfl (n - k) (n - k) hk rfl rfl
  have S := hideD s
  have S1 := hideD s1
  have S2 := hideD s2
  have HBEL := hideD hbel
  have HO := hideD hbad
  have HN := hideD (Dec.num_no zs hbad)
  have hk0 : decide ((k : Int) < 0) = false := decide_eq_false (by omega)
  have hkn : decide ((n : Int) < (k : Int)) = false := decide_eq_false (by omega)
  have hkn' : decide (n < k) = false := decide_eq_false (by omega)
  have HL := hideD hlen
  clear hlen hb hcell s hbel s1 s2 hbad
  by_cases h1 : n < 1
  · go_enter Try.func4, Try.ntmps4
    go_wp2_with (go_at_call 11; go_in)
    refine (zzdecimal_any _ _ _ zs _ S.out).mono ?_
    rw [HO.out, HN.out]
    rintro e w' ⟨rfl, rfl⟩
    go_wp2_with fail
    refine (zzdecimal_any _ _ _ (zs.take k) _ S1.out).mono ?_
    rintro e w' ⟨rfl, rfl⟩
    go_wp2_with fail
    refine (zzdecimal_any _ _ _ (zs.drop k) _ S2.out).mono ?_
    rintro e w' ⟨rfl, rfl⟩
    go_wp2_with fail
    go_ret
    exact ⟨rfl, HBEL.out⟩
  · have d1 : decide ((n : Int) < 1) = false := decide_eq_false (by omega)
    by_cases h2 : 18 < n
    · clear h1
      go_enter Try.func4, Try.ntmps4
      go_wp2_with (go_at_call 11; go_in)
      refine (zzdecimal_any _ _ _ zs _ S.out).mono ?_
      rw [HO.out, HN.out]
      rintro e w' ⟨rfl, rfl⟩
      go_wp2_with fail
      refine (zzdecimal_any _ _ _ (zs.take k) _ S1.out).mono ?_
      rintro e w' ⟨rfl, rfl⟩
      go_wp2_with fail
      refine (zzdecimal_any _ _ _ (zs.drop k) _ S2.out).mono ?_
      rintro e w' ⟨rfl, rfl⟩
      go_wp2_with fail
      go_ret
      exact ⟨rfl, HBEL.out⟩
    · have d2 : decide ((18 : Int) < (n : Int)) = false := decide_eq_false (by omega)
      have d3 : decide (18 < n) = false := decide_eq_false (by omega)
      have d4 : decide (n < 1) = false := decide_eq_false (by omega)
      have hnd : zs.all Dec.digB = false := by
        rw [Bool.eq_false_iff]
        intro e
        have hl := HL.out
        have := Dec.ok_of zs (by omega) (by omega) ((Dec.all_digB zs).1 e)
        rw [HO.out] at this
        cases this
      have HND := hideD hnd
      clear h1 h2 hnd
      go_enter Try.func4, Try.ntmps4
      go_wp2_with (go_at_call 11; go_in)
      refine (zzdecimal_any _ _ _ zs _ S.out).mono ?_
      rw [HO.out, HN.out]
      rintro e w' ⟨rfl, rfl⟩
      go_wp2_with fail
      refine (zzdecimal_any _ _ _ (zs.take k) _ S1.out).mono ?_
      rintro e w' ⟨rfl, rfl⟩
      go_wp2_with fail
      refine (zzdecimal_any _ _ _ (zs.drop k) _ S2.out).mono ?_
      rintro e w' ⟨rfl, rfl⟩
      go_wp2_with fail
      refine (allDigits_any _ _ _ zs _ S.out).mono ?_
      rw [HND.out]
      rintro e w' ⟨rfl, rfl⟩
      go_wp2_with fail
      go_ret
      exact ⟨rfl, HBEL.out⟩

theorem pow_eq (K P : Int) (k : Nat) (hK : K = (k : Int)) (hP : P = 10 ^ k) (hk : k ≤ 18) (w : World) :
    Calls Try.prog 13 #[.int .i64 K] w fun e w' => e = .returned (.int .i64 P) ∧ w' = w := by
  subst hK; subst hP; exact pow_any k hk w

set_option maxRecDepth 100000 in
set_option maxHeartbeats 3200000 in
theorem lawD_ok (x : Addr) (n c k : Nat) (zs : List Int) (w : World) (hn : n ≤ 65536) (hk : k ≤ n) (hlen : zs.length = n) (hb : ∀ i, i < n → 0 ≤ zs.getD i 0 ∧ zs.getD i 0 ≤ 255)
    (hcell : ∀ i, i < n → w.cell? (x.add i) = some (.int .u8 (zs.getD i 0))) (hok : Dec.okB zs = true) :
    Calls Try.prog 4 #[.slice (some x) n c, .int .i64 (k : Int)] w fun e w' => e = .returned (.bool true) ∧ Below w.heap.size w w' := by
  have hmk := made n hn
  have h65 : decide ((65536 : Int) < (n : Int)) = false := decide_eq_false (by omega)
  have hnn := fun w => run_neq_slice_nil_any (P := Try.prog) w 22 5 (some x) n c 0 0 Try.underlying22
  obtain ⟨w2, hcp, s, hbel⟩ := copied x n c zs w hn hlen hb hcell
  obtain ⟨A1, s1, r1⟩ := s.run_h k (k : Int) rfl hk
  obtain ⟨A2, s2, r2⟩ := s.run_l k (k : Int) rfl (n - k) (n - k) hk rfl rfl
  obtain ⟨g1, g18, hd⟩ := Dec.ok_parts zs hok
  rw [hlen] at g1 g18
  obtain ⟨gb, goff, ga, hc⟩ := s.cell (by omega)
  simp only [Option.some.injEq, Addr.mk.injEq] at ga
  obtain ⟨rfl, rfl, _⟩ := ga
  have hcf := hc 0 (by omega)
  have hcl := hc (n - 1) (by omega)
  have hmod := Dec.mod_last zs (by omega) hd
  have hdiv := Dec.div_first zs (by omega) hd
  have hcut := Dec.val_cut zs k (by omega)
  have hvb := Dec.val_bd zs hd
  rw [hlen] at hmod hdiv hcut hvb
  have hf := hd (zs.getD 0 0) (by simp [List.getD, show 0 < zs.length by omega])
  have hl := hd (zs.getD (n - 1) 0) (by simp [List.getD, show n - 1 < zs.length by omega])
  have hp18 := Dec.pow_le n 18 g18
  have hp18' : (10 : Int) ^ 18 = 1000000000000000000 := by decide
  have hpp := Dec.pow_pos' (n - 1)
  have hPn := Dec.pow_le (n - 1) 17 (by omega)
  have hp17' : (10 : Int) ^ 17 = 100000000000000000 := by decide
  obtain ⟨V, hV⟩ : ∃ V, V = Dec.val zs := ⟨_, rfl⟩
  obtain ⟨P, hP⟩ : ∃ P : Int, P = 10 ^ (n - 1) := ⟨_, rfl⟩
  obtain ⟨y0, hy0⟩ : ∃ y, y = zs.getD 0 0 := ⟨_, rfl⟩
  obtain ⟨y1, hy1⟩ : ∃ y, y = zs.getD (n - 1) 0 := ⟨_, rfl⟩
  rw [← hV] at hmod hdiv hcut hvb
  rw [← hP] at hdiv hpp hPn
  rw [← hy0] at hdiv hcf hf
  rw [← hy1] at hmod hcl hl
  have v0 : 0 ≤ V := hvb.1
  have v1 : V < 1000000000000000000 := by omega
  have p1 : P ≤ 100000000000000000 := by omega
  obtain ⟨f1, f2⟩ := hf
  obtain ⟨l1, l2⟩ := hl
  have HP := hideD hP
  have HMOD := hideD hmod
  have HDIV := hideD hdiv
  have HCUT := hideD hcut
  have S := hideD s
  have S1 := hideD s1
  have S2 := hideD s2
  have HBEL := hideD hbel
  have HO := hideD hok
  have HN : Hid (Dec.num zs = V) := (Dec.num_ok zs hok).trans hV.symm
  have HV := hideD hV
  have HD := hideD hd
  have HL := hideD hlen
  have HND := hideD ((Dec.all_digB zs).2 hd)
  have hk0 : decide ((k : Int) < 0) = false := decide_eq_false (by omega)
  have hkn : decide ((n : Int) < (k : Int)) = false := decide_eq_false (by omega)
  have hkn' : decide (n < k) = false := decide_eq_false (by omega)
  have d1 : decide ((n : Int) < 1) = false := decide_eq_false (by omega)
  have d2 : decide ((18 : Int) < (n : Int)) = false := decide_eq_false (by omega)
  have d3 : decide (18 < n) = false := decide_eq_false (by omega)
  have d4 : decide (n < 1) = false := decide_eq_false (by omega)
  rw [Nat.zero_add] at hcf hcl
  have hP0 : (P == 0) = false := by simp; omega
  clear hlen hb hcell s hbel s1 s2 hok hd hc hcut hvb hp18 hp18' hp17' hPn hV hP hy0 hy1
  by_cases hk1 : k = 0
  · have HT1 : Hid (Dec.okB (zs.take k) = false) := by rw [hk1]; rfl
    have HT2 : Hid (Dec.num (zs.take k) = 0) := by rw [hk1]; rfl
    have HU1 : Hid (Dec.okB (zs.drop k) = true) := by rw [hk1]; exact HO.out
    have HU2 : Hid (Dec.num (zs.drop k) = V) := by rw [hk1]; exact HN.out
    have t1 : k < 1 := by omega
    clear hk1
    go_enter Try.func4, Try.ntmps4
    go_wp2_with (go_at_call 11; go_in)
    refine (zzdecimal_any _ _ _ zs _ S.out).mono ?_
    rw [HO.out, HN.out]
    rintro e w' ⟨rfl, rfl⟩
    go_wp2_with fail
    refine (zzdecimal_any _ _ _ (zs.take k) _ S1.out).mono ?_
    rw [HT1.out, HT2.out]
    rintro e w' ⟨rfl, rfl⟩
    go_wp2_with fail
    refine (zzdecimal_any _ _ _ (zs.drop k) _ S2.out).mono ?_
    rw [HU1.out, HU2.out]
    rintro e w' ⟨rfl, rfl⟩
    go_wp2_with fail
    refine (allDigits_any _ _ _ zs _ S.out).mono ?_
    rw [HND.out]
    rintro e w' ⟨rfl, rfl⟩
    go_wp2_with fail
    go_quiet ((go_at_call 13; exact Calls.quiet_of_same (pow_eq _ P (n - 1) (by omega) HP.out (by omega) _)))
    go_wp2_with fail
    go_ret
    exact ⟨rfl, below_drewN HBEL.out _⟩
  · by_cases hk2 : k = n
    · have e1 : zs.take k = zs := List.take_of_length_le (by rw [HL.out]; omega)
      have e2 : zs.drop k = [] := List.drop_eq_nil_of_le (by rw [HL.out]; omega)
      have HT1 : Hid (Dec.okB (zs.take k) = true) := by rw [e1]; exact HO.out
      have HT2 : Hid (Dec.num (zs.take k) = V) := by rw [e1]; exact HN.out
      have HU1 : Hid (Dec.okB (zs.drop k) = false) := by rw [e2]; rfl
      have HU2 : Hid (Dec.num (zs.drop k) = 0) := by rw [e2]; rfl
      have t1 : 1 ≤ k := by omega
      have t2 : n ≤ k := by omega
      have Z2 := S2.out
      rw [show n - k = 0 by omega] at Z2
      have S20 := hideD Z2
      clear hk1 hk2 e1 e2 Z2
      go_enter Try.func4, Try.ntmps4
      go_wp2_with (go_at_call 11; go_in)
      refine (zzdecimal_any _ _ _ zs _ S.out).mono ?_
      rw [HO.out, HN.out]
      rintro e w' ⟨rfl, rfl⟩
      go_wp2_with fail
      refine (zzdecimal_any _ _ _ (zs.take k) _ S1.out).mono ?_
      rw [HT1.out, HT2.out]
      rintro e w' ⟨rfl, rfl⟩
      go_wp2_with fail
      refine (zzdecimal_any _ _ _ (zs.drop k) _ S20.out).mono ?_
      rw [HU1.out, HU2.out]
      rintro e w' ⟨rfl, rfl⟩
      go_wp2_with fail
      refine (allDigits_any _ _ _ zs _ S.out).mono ?_
      rw [HND.out]
      rintro e w' ⟨rfl, rfl⟩
      go_wp2_with fail
      go_quiet ((go_at_call 13; exact Calls.quiet_of_same (pow_eq _ P (n - 1) (by omega) HP.out (by omega) _)))
      go_wp2_with fail
      go_ret
      exact ⟨rfl, below_drewN HBEL.out _⟩
    · have hl := HL.out
      have g1' : (zs.take k).length = k := by rw [List.length_take]; omega
      have g2' : (zs.drop k).length = n - k := by rw [List.length_drop]; omega
      have o1 := Dec.ok_of (zs.take k) (by omega) (by omega) (Dec.digs_of_take zs HD.out k)
      have o2 := Dec.ok_of (zs.drop k) (by omega) (by omega) (Dec.digs_of_drop zs HD.out k)
      have b1 := Dec.val_bd _ (Dec.digs_of_take zs HD.out k)
      have b2 := Dec.val_bd _ (Dec.digs_of_drop zs HD.out k)
      have hq := Dec.pow_pos' (n - k)
      have hq17 := Dec.pow_le (n - k) 17 (by omega)
      have hq17' : (10 : Int) ^ 17 = 100000000000000000 := by decide
      rw [g1'] at b1
      rw [g2'] at b2
      have hx17 := Dec.pow_le k 17 (by omega)
      have hcut := HCUT.out
      obtain ⟨X, hX⟩ : ∃ X, X = Dec.val (zs.take k) := ⟨_, rfl⟩
      obtain ⟨Y, hY⟩ : ∃ Y, Y = Dec.val (zs.drop k) := ⟨_, rfl⟩
      obtain ⟨Q, hQ⟩ : ∃ Q : Int, Q = 10 ^ (n - k) := ⟨_, rfl⟩
      have HT1 : Hid (Dec.okB (zs.take k) = true) := o1
      have HT2 : Hid (Dec.num (zs.take k) = X) := (Dec.num_ok _ o1).trans hX.symm
      have HU1 : Hid (Dec.okB (zs.drop k) = true) := o2
      have HU2 : Hid (Dec.num (zs.drop k) = Y) := (Dec.num_ok _ o2).trans hY.symm
      rw [← hX] at b1 hcut
      rw [← hY] at b2 hcut
      rw [← hQ] at b2 hcut hq hq17
      have m0 : 0 ≤ X * Q := Int.mul_nonneg b1.1 (by omega)
      have m1 : X * Q ≤ V := by omega
      have x0 : 0 ≤ X := b1.1
      have x1 : X ≤ 100000000000000000 := by omega
      have q1 : Q ≤ 100000000000000000 := by omega
      have y0' : 0 ≤ Y := b2.1
      have y1' : Y ≤ 100000000000000000 := by omega
      have hsum : X * Q + Y = V := hcut.symm
      have HQ := hideD hQ
      have t1 : 1 ≤ k := by omega
      have t2 : k < n := by omega
      clear hk1 hk2 hl g1' g2' o1 o2 b1 b2 hq17 hq17' hx17 hcut hX hY hQ
      go_enter Try.func4, Try.ntmps4
      go_wp2_with (go_at_call 11; go_in)
      refine (zzdecimal_any _ _ _ zs _ S.out).mono ?_
      rw [HO.out, HN.out]
      rintro e w' ⟨rfl, rfl⟩
      go_wp2_with fail
      refine (zzdecimal_any _ _ _ (zs.take k) _ S1.out).mono ?_
      rw [HT1.out, HT2.out]
      rintro e w' ⟨rfl, rfl⟩
      go_wp2_with fail
      refine (zzdecimal_any _ _ _ (zs.drop k) _ S2.out).mono ?_
      rw [HU1.out, HU2.out]
      rintro e w' ⟨rfl, rfl⟩
      go_wp2_with fail
      refine (allDigits_any _ _ _ zs _ S.out).mono ?_
      rw [HND.out]
      rintro e w' ⟨rfl, rfl⟩
      go_wp2_with fail
      go_quiet ((go_at_call 13; exact Calls.quiet_of_same (pow_eq _ P (n - 1) (by omega) HP.out (by omega) _)))
      go_wp2_with (go_at_call 13; refine (pow_eq _ Q (n - k) (by omega) HQ.out (by omega) _).mono ?_; rintro e w4 ⟨rfl, rfl⟩)
      go_ret
      exact ⟨rfl, below_drewN HBEL.out _⟩

/-- The law at every text that came in and every cut. -/
theorem lawD_row (x : Addr) (n c : Nat) (k : Int) (zs : List Int) (w : World) (hm : n ≤ maxLen) (hlen : zs.length = n) (hb : ∀ i, i < n → 0 ≤ zs.getD i 0 ∧ zs.getD i 0 ≤ 255)
    (hcell : ∀ i, i < n → w.cell? (x.add i) = some (.int .u8 (zs.getD i 0))) :
    Calls Try.prog 4 #[.slice (some x) n c, .int .i64 k] w fun e w' => e = .returned (.bool true) ∧ Below w.heap.size w w' := by
  by_cases hn : n ≤ 65536
  · by_cases ho : k < 0 ∨ (n : Int) < k
    · exact lawD_out _ n c k w hn ho
    · obtain ⟨j, rfl⟩ : ∃ j : Nat, k = (j : Int) := ⟨k.toNat, by omega⟩
      cases hok : Dec.okB zs
      · exact lawD_bad x n c j zs w hn (by omega) hlen hb hcell hok
      · exact lawD_ok x n c j zs w hn (by omega) hlen hb hcell hok
  · exact lawD_great _ n c k w (by omega) hm
end Go.Proofs.Qxb6617070a
