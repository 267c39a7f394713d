/-
  The walks over isDigit, zzIsDigit, decimal, ZZdecimal, zzDecimalModel.
-/
import Derived.Test.Qxb6617070aProg
import Derived.Test.Qxb6617070aSl
import Derived.Test.Qxb6617070aMath
namespace Go.Proofs.Qxb6617070a
open Go.RowKit
set_option linter.unusedSimpArgs false
set_option linter.unusedVariables false

theorem isDigit_yes (x : Int) (w : World) (h1 : 48 ≤ x) (h2 : x ≤ 57) :
    Calls Try.prog 27 #[.int .u8 x] w fun e w' => e = .returned (.bool true) ∧ w' = w := by
  go_enter Try.func27, Try.ntmps27
  go_wp2
  go_ret
  exact ⟨rfl, rfl⟩
theorem isDigit_no (x : Int) (w : World) (h : ¬ (48 ≤ x ∧ x ≤ 57)) :
    Calls Try.prog 27 #[.int .u8 x] w fun e w' => e = .returned (.bool false) ∧ w' = w := by
  by_cases h1 : 48 ≤ x
  · have h2 : decide (x ≤ 57) = false := decide_eq_false (by omega)
    clear h
    go_enter Try.func27, Try.ntmps27
    go_wp2
    go_ret
    exact ⟨rfl, rfl⟩
  · have h2 : decide (48 ≤ x) = false := decide_eq_false h1
    clear h h1
    go_enter Try.func27, Try.ntmps27
    go_wp2
    go_ret
    exact ⟨rfl, rfl⟩
theorem zzIsDigit_yes (x : Int) (w : World) (h1 : 48 ≤ x) (h2 : x ≤ 57) :
    Calls Try.prog 24 #[.int .u8 x] w fun e w' => e = .returned (.bool true) ∧ w' = w := by
  go_enter Try.func24, Try.ntmps24
  go_wp2
  go_ret
  exact ⟨rfl, rfl⟩
theorem zzIsDigit_no (x : Int) (w : World) (h : ¬ (48 ≤ x ∧ x ≤ 57)) :
    Calls Try.prog 24 #[.int .u8 x] w fun e w' => e = .returned (.bool false) ∧ w' = w := by
  by_cases h1 : 48 ≤ x
  · have h2 : decide (x ≤ 57) = false := decide_eq_false (by omega)
    clear h
    go_enter Try.func24, Try.ntmps24
    go_wp2
    go_ret
    exact ⟨rfl, rfl⟩
  · have h2 : decide (48 ≤ x) = false := decide_eq_false h1
    clear h h1
    go_enter Try.func24, Try.ntmps24
    go_wp2
    go_ret
    exact ⟨rfl, rfl⟩

/-- decimal of a text that is too short or too long. -/
theorem decimal_len (a : Option Addr) (n c : Nat) (zs : List Int) (w : World) (s : Sl w a n c zs) (h : n = 0 ∨ 18 < n) :
    Calls Try.prog 23 #[.slice a n c] w fun e w' => e = .returned (.tuple #[.int .i64 (Dec.num zs), .bool (Dec.okB zs)]) ∧ w' = w := by
  have hno : Dec.okB zs = false := Dec.no_of_len zs (by rw [s.len]; omega)
  rw [Dec.num_no zs hno, hno]
  have hf := s.few
  clear s hno
  rcases h with h | h
  · subst h
    go_enter Try.func23, Try.ntmps23
    go_wp2
    go_ret2
    exact ⟨rfl, rfl⟩
  · have h0 : ((n : Int) == 0) = false := by simp; omega
    go_enter Try.func23, Try.ntmps23
    go_wp2
    go_ret2
    exact ⟨rfl, rfl⟩

theorem decimal_mid (b off n c : Nat) (zs : List Int) (w : World) (hlen : zs.length = n) (h1 : 1 ≤ n) (h2 : n ≤ 18)
    (hcell : ∀ i, i < n → w.cell? ⟨b, off + i, none⟩ = some (.int .u8 (zs.getD i 0))) :
    Calls Try.prog 23 #[.slice (some ⟨b, off, none⟩) n c] w fun e w' => e = .returned (.tuple #[.int .i64 (Dec.num zs), .bool (Dec.okB zs)]) ∧ w' = w := by
  have h0 : ((n : Int) == 0) = false := by simp; omega
  have HL : Hid (zs.length = n) := hlen
  have HC : Hid (∀ i, i < n → w.cell? ⟨b, off + i, none⟩ = some (.int .u8 (zs.getD i 0))) := hcell
  clear hlen hcell
  go_enter Try.func23, Try.ntmps23
  go_wp2
  go_loop [4, 17] (fun v i => ∃ k : Nat, k ≤ n ∧ Dec.digs (zs.take k) ∧ i = .int .i64 k ∧ v = .int .i64 (Dec.val (zs.take k))) (fun _ i => n - (intOf i).toNat)
  case atStart => exact ⟨0, Nat.zero_le _, by simp [Dec.digs], rfl, rfl⟩
  case round =>
    obtain ⟨k, hk, hd, rfl, rfl⟩ := hrel
    have hl := HL.out
    have hv := Dec.val_bd _ hd
    have hlk : (zs.take k).length = k := by rw [List.length_take]; omega
    rw [hlk] at hv
    by_cases hlt : k < n
    · have hp := Dec.pow_le k 17 (by omega)
      have hp17 : (10 : Int) ^ 17 = 100000000000000000 := by decide
      obtain ⟨V, hV⟩ : ∃ V, V = Dec.val (zs.take k) := ⟨_, rfl⟩
      obtain ⟨x, hx⟩ : ∃ x, x = zs.getD k 0 := ⟨_, rfl⟩
      have hcx := HC.out k hlt
      rw [← hx] at hcx
      rw [← hV] at hv ⊢
      have hv1 : 0 ≤ V := hv.1
      have hv2 : V < 100000000000000000 := by omega
      have HV : Hid (V = Dec.val (zs.take k)) := hV
      have HX : Hid (x = zs.getD k 0) := hx
      have HD : Hid (Dec.digs (zs.take k)) := hd
      clear hV hx hd hv hp hp17 hlk hl
      by_cases hdx : 48 ≤ x ∧ x ≤ 57
      · obtain ⟨hd1, hd2⟩ := hdx
        go_wp2_with (go_at_call 27; refine (isDigit_yes _ _ hd1 hd2).mono ?_; rintro e w' ⟨rfl, rfl⟩)
        have hl := HL.out
        have hts := Dec.take_snoc zs k (by omega)
        go_round
        case rel => exact ⟨k + 1, by omega, Dec.digs_take_succ zs k (by omega) HD.out (by rw [← HX.out]; exact ⟨hd1, hd2⟩), by go_num, by rw [hts, Dec.val_snoc, ← HV.out, ← HX.out]⟩
        case measure => simp [intOf]; omega
      · go_wp2_with (go_at_call 27; refine (isDigit_no _ _ hdx).mono ?_; rintro e w' ⟨rfl, rfl⟩)
        go_ret2
        have hl := HL.out
        have hno := Dec.no_of_bad zs k (by omega) (by rw [← HX.out]; exact hdx)
        exact ⟨by rw [hno, Dec.num_no zs hno]; rfl, rfl⟩
    · have hkn : k = n := by omega
      have ht : zs.take k = zs := List.take_of_length_le (by omega)
      rw [ht] at hd ⊢
      have hok := Dec.ok_of zs (by omega) (by omega) hd
      have HE : Hid (Dec.num zs = Dec.val zs) := Dec.num_ok zs hok
      have HO : Hid (Dec.okB zs = true) := hok
      clear ht hok hd hv hlk hkn hl
      go_wp2
      go_ret2
      exact ⟨by rw [HE.out, HO.out]; rfl, rfl⟩

/-- decimal, whatever the text. -/
theorem decimal_any (a : Option Addr) (n c : Nat) (zs : List Int) (w : World) (s : Sl w a n c zs) :
    Calls Try.prog 23 #[.slice a n c] w fun e w' => e = .returned (.tuple #[.int .i64 (Dec.num zs), .bool (Dec.okB zs)]) ∧ w' = w := by
  by_cases h : n = 0 ∨ 18 < n
  · exact decimal_len a n c zs w s h
  · obtain ⟨b, off, rfl, hc⟩ := s.cell (by omega)
    exact decimal_mid b off n c zs w s.len (by omega) (by omega) hc

theorem zzdecimal_any (a : Option Addr) (n c : Nat) (zs : List Int) (w : World) (s : Sl w a n c zs) :
    Calls Try.prog 9 #[.slice a n c] w fun e w' => e = .returned (.tuple #[.int .i64 (Dec.num zs), .bool (Dec.okB zs)]) ∧ w' = w := by
  go_enter Try.func9, Try.ntmps9
  go_wp2_with (go_at_call 23; refine (decimal_any _ _ _ zs _ s).mono ?_; rintro e w' ⟨rfl, rfl⟩)
  go_ret2
  exact ⟨rfl, rfl⟩

/-- zzDecimalModel of a text that is too short or too long. -/
theorem model_len (a : Option Addr) (n c : Nat) (zs : List Int) (w : World) (s : Sl w a n c zs) (h : n = 0 ∨ 18 < n) :
    Calls Try.prog 10 #[.slice a n c] w fun e w' => e = .returned (.tuple #[.int .i64 (Dec.num zs), .bool (Dec.okB zs)]) ∧ w' = w := by
  have hno : Dec.okB zs = false := Dec.no_of_len zs (by rw [s.len]; omega)
  rw [Dec.num_no zs hno, hno]
  have hf := s.few
  clear s hno
  rcases h with h | h
  · subst h
    go_enter Try.func10, Try.ntmps10
    go_wp2
    go_ret2
    exact ⟨rfl, rfl⟩
  · have h0 : decide ((n : Int) < 1) = false := decide_eq_false (by omega)
    go_enter Try.func10, Try.ntmps10
    go_wp2
    go_ret2
    exact ⟨rfl, rfl⟩

theorem model_mid (b off n c : Nat) (zs : List Int) (w : World) (hlen : zs.length = n) (h1 : 1 ≤ n) (h2 : n ≤ 18)
    (hcell : ∀ i, i < n → w.cell? ⟨b, off + i, none⟩ = some (.int .u8 (zs.getD i 0))) :
    Calls Try.prog 10 #[.slice (some ⟨b, off, none⟩) n c] w fun e w' => e = .returned (.tuple #[.int .i64 (Dec.num zs), .bool (Dec.okB zs)]) ∧ w' = w := by
  have h0 : decide ((n : Int) < 1) = false := decide_eq_false (by omega)
  have HL : Hid (zs.length = n) := hlen
  have HC : Hid (∀ i, i < n → w.cell? ⟨b, off + i, none⟩ = some (.int .u8 (zs.getD i 0))) := hcell
  clear hlen hcell
  go_enter Try.func10, Try.ntmps10
  go_wp2
  go_loop [4, 5, 6] (fun v p i => ∃ k : Nat, k ≤ n ∧ Dec.digs (zs.drop k) ∧ i = .int .i64 ((k : Int) - 1) ∧ v = .int .i64 (Dec.val (zs.drop k)) ∧ p = .int .i64 (10 ^ (n - k))) (fun _ _ i => (intOf i + 1).toNat)
  case atStart =>
    have hl := HL.out
    have e : zs.drop n = [] := List.drop_eq_nil_of_le (by omega)
    exact ⟨n, Nat.le_refl _, by rw [e]; simp [Dec.digs], rfl, by rw [e]; rfl, by simp⟩
  case round =>
    obtain ⟨k, hk, hd, rfl, rfl, rfl⟩ := hrel
    have hl := HL.out
    have hv := Dec.val_bd _ hd
    have hlk : (zs.drop k).length = n - k := by rw [List.length_drop]; omega
    rw [hlk] at hv
    by_cases hk0 : k = 0
    · subst hk0
      have ht : zs.drop 0 = zs := rfl
      rw [ht] at hd ⊢
      have hok := Dec.ok_of zs (by omega) (by omega) hd
      have HE : Hid (Dec.num zs = Dec.val zs) := Dec.num_ok zs hok
      have HO : Hid (Dec.okB zs = true) := hok
      have e1 : ((0 : Nat) : Int) - 1 = -1 := by omega
      rw [e1]
      clear ht hok hd hv hlk hl e1
      go_wp2
      go_ret2
      exact ⟨by rw [HE.out, HO.out]; rfl, rfl⟩
    · obtain ⟨j, rfl⟩ : ∃ j, k = j + 1 := ⟨k - 1, by omega⟩
      have e1 : ((j + 1 : Nat) : Int) - 1 = (j : Int) := by omega
      rw [e1]
      have hp := Dec.pow_le (n - (j + 1)) 17 (by omega)
      have hpp := Dec.pow_pos' (n - (j + 1))
      have hp17 : (10 : Int) ^ 17 = 100000000000000000 := by decide
      obtain ⟨V, hV⟩ : ∃ V, V = Dec.val (zs.drop (j + 1)) := ⟨_, rfl⟩
      obtain ⟨p, hP⟩ : ∃ p : Int, p = 10 ^ (n - (j + 1)) := ⟨_, rfl⟩
      obtain ⟨x, hx⟩ : ∃ x, x = zs.getD j 0 := ⟨_, rfl⟩
      have hcx := HC.out j (by omega)
      rw [← hx] at hcx
      rw [← hV, ← hP] at hv
      rw [← hV, ← hP]
      rw [← hP, hp17] at hp
      rw [← hP] at hpp
      have hv1 : 0 ≤ V := hv.1
      have hv2 : V < 100000000000000000 := by omega
      have HV : Hid (V = Dec.val (zs.drop (j + 1))) := hV
      have HP : Hid (p = 10 ^ (n - (j + 1))) := hP
      have HX : Hid (x = zs.getD j 0) := hx
      have HD : Hid (Dec.digs (zs.drop (j + 1))) := hd
      clear hV hx hd hv hp17 hlk hl hP e1 hk0
      have hj0 : (0 : Int) ≤ (j : Int) := by omega
      have hj1 : (j : Int) < (n : Int) := by omega
      by_cases hdx : 48 ≤ x ∧ x ≤ 57
      · obtain ⟨hd1, hd2⟩ := hdx
        have m1 : 0 ≤ (x - 48) * p := Int.mul_nonneg (by omega) (by omega)
        have m2 : (x - 48) * p ≤ 9 * p := Int.mul_le_mul_of_nonneg_right (by omega) (by omega)
        go_wp2_with (go_at_call 24; refine (zzIsDigit_yes _ _ hd1 hd2).mono ?_; rintro e w' ⟨rfl, rfl⟩)
        go_round
        case rel =>
          have hl := HL.out
          have hdc := Dec.drop_cons zs j (by omega)
          have hnj : n - j = n - (j + 1) + 1 := by omega
          have hlj : (zs.drop (j + 1)).length = n - (j + 1) := by rw [List.length_drop]; omega
          refine ⟨j, by omega, Dec.digs_drop zs j (by omega) HD.out (by rw [← HX.out]; exact ⟨hd1, hd2⟩), rfl, congrArg (Value.int .i64) ?_, congrArg (Value.int .i64) ?_⟩
          · rw [hdc, Dec.val_cons, hlj, ← HP.out, ← HV.out, ← HX.out]; omega
          · rw [hnj, Int.pow_succ, ← HP.out]
        case measure => simp [intOf]
      · go_wp2_with (go_at_call 24; refine (zzIsDigit_no _ _ hdx).mono ?_; rintro e w' ⟨rfl, rfl⟩)
        go_ret2
        have hl := HL.out
        have hno := Dec.no_of_bad zs j (by omega) (by rw [← HX.out]; exact hdx)
        exact ⟨by rw [hno, Dec.num_no zs hno]; rfl, rfl⟩

/-- zzDecimalModel, whatever the text. -/
theorem model_any (a : Option Addr) (n c : Nat) (zs : List Int) (w : World) (s : Sl w a n c zs) :
    Calls Try.prog 10 #[.slice a n c] w fun e w' => e = .returned (.tuple #[.int .i64 (Dec.num zs), .bool (Dec.okB zs)]) ∧ w' = w := by
  by_cases h : n = 0 ∨ 18 < n
  · exact model_len a n c zs w s h
  · obtain ⟨b, off, rfl, hc⟩ := s.cell (by omega)
    exact model_mid b off n c zs w s.len (by omega) (by omega) hc
end Go.Proofs.Qxb6617070a
