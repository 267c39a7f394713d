/-
  The walks over zzAllDigits and zzPow10; more plain mathematics for the law over a cut.
-/
import Derived.Test.Qxb6617070aDec
namespace Go.Proofs.Qxb6617070a
open Go.RowKit
set_option linter.unusedSimpArgs false
set_option linter.unusedVariables false

theorem hideD {p : Prop} (h : p) : Hid p := h

theorem allDigits_any (a : Option Addr) (n c : Nat) (zs : List Int) (w : World) (s : Sl w a n c zs) :
    Calls Try.prog 12 #[.slice a n c] w fun e w' => e = .returned (.bool (zs.all Dec.digB)) ∧ w' = w := by
  have HS : Hid (Sl w a n c zs) := s
  have hf := s.few
  clear s
  go_enter Try.func12, Try.ntmps12
  go_wp2
  go_loop [3] (fun i => ∃ k : Nat, k ≤ n ∧ i = .int .i64 k ∧ Hid (Dec.digs (zs.take k))) (fun i => n - (intOf i).toNat)
  case atStart => exact ⟨0, Nat.zero_le _, rfl, by intro x hx; simp at hx⟩
  case round =>
    obtain ⟨k, hk, rfl, HA⟩ := hrel
    by_cases hlt : k < n
    · obtain ⟨b, off, ha, hc⟩ := HS.out.cell (by omega)
      have hcx := hc k hlt
      obtain ⟨x, hx⟩ : ∃ x, x = zs.getD k 0 := ⟨_, rfl⟩
      rw [← hx] at hcx
      have HX : Hid (x = zs.getD k 0) := hx
      subst ha
      clear hc hx
      by_cases hb : 48 ≤ x ∧ x ≤ 57
      · obtain ⟨hb1, hb2⟩ := hb
        go_wp2_with (go_at_call 24; refine (zzIsDigit_yes x _ hb1 hb2).mono ?_; rintro e w' ⟨rfl, rfl⟩)
        have hl := HS.out.len
        go_round
        case rel => exact ⟨k + 1, by omega, by go_num, Dec.digs_take_succ zs k (by omega) HA.out (by rw [← HX.out]; exact ⟨hb1, hb2⟩)⟩
        case measure => simp [intOf]; omega
      · go_wp2_with (go_at_call 24; refine (zzIsDigit_no x _ hb).mono ?_; rintro e w' ⟨rfl, rfl⟩)
        go_ret
        have hl := HS.out.len
        have hno : zs.all Dec.digB = false := by
          rw [Bool.eq_false_iff]
          intro e
          exact hb (by rw [HX.out]; exact (Dec.all_digB zs).1 e _ (by simp [List.getD, show k < zs.length by omega]))
        exact ⟨by rw [hno]; rfl, rfl⟩
    · go_wp2
      go_ret
      have hl := HS.out.len
      have ht : zs.take k = zs := List.take_of_length_le (by omega)
      have ha := HA.out
      rw [ht] at ha
      exact ⟨by rw [(Dec.all_digB zs).2 ha]; rfl, rfl⟩

theorem pow_any (k : Nat) (hk : k ≤ 18) (w : World) :
    Calls Try.prog 13 #[.int .i64 (k : Int)] w fun e w' => e = .returned (.int .i64 (10 ^ k)) ∧ w' = w := by
  go_enter Try.func13, Try.ntmps13
  go_wp2
  go_loop [3, 4] (fun p i => ∃ j : Nat, j ≤ k ∧ i = .int .i64 j ∧ p = .int .i64 (10 ^ j)) (fun _ i => k - (intOf i).toNat)
  case atStart => exact ⟨0, Nat.zero_le _, rfl, rfl⟩
  case round =>
    obtain ⟨j, hj, rfl, rfl⟩ := hrel
    by_cases hlt : j < k
    · have hp := Dec.pow_le j 17 (by omega)
      have hpp := Dec.pow_pos' j
      have hp17 : (10 : Int) ^ 17 = 100000000000000000 := by decide
      rw [hp17] at hp
      obtain ⟨p, hP⟩ : ∃ p : Int, p = 10 ^ j := ⟨_, rfl⟩
      rw [← hP] at hp hpp
      rw [← hP]
      have HP : Hid (p = 10 ^ j) := hP
      clear hP hp17
      go_wp2
      go_round
      case rel => exact ⟨j + 1, by omega, by go_num, by rw [Int.pow_succ, ← HP.out]⟩
      case measure => simp [intOf]; omega
    · have hjk : j = k := by omega
      subst hjk
      have hlt' : decide (j < j) = false := decide_eq_false (by omega)
      obtain ⟨p, hP⟩ : ∃ p : Int, p = 10 ^ j := ⟨_, rfl⟩
      rw [← hP]
      have HP : Hid (p = 10 ^ j) := hP
      clear hP
      go_wp2
      go_ret
      exact ⟨congrArg (fun z => Ending.returned (.int .i64 z)) HP.out, rfl⟩

namespace Dec
theorem val_last (zs : List Int) (h : 0 < zs.length) : val zs = 10 * val (zs.take (zs.length - 1)) + (zs.getD (zs.length - 1) 0 - 48) := by
  have e : zs.take (zs.length - 1) ++ [zs.getD (zs.length - 1) 0] = zs := by
    rw [← take_snoc zs (zs.length - 1) (by omega), List.take_of_length_le (by omega)]
  have := val_snoc (zs.take (zs.length - 1)) (zs.getD (zs.length - 1) 0)
  rwa [e] at this
theorem val_first (zs : List Int) (h : 0 < zs.length) : val zs = (zs.getD 0 0 - 48) * 10 ^ (zs.length - 1) + val (zs.drop 1) := by
  have e := drop_cons zs 0 h
  rw [List.drop_zero] at e
  have := val_cons (zs.getD 0 0) (zs.drop 1)
  rw [List.length_drop] at this
  rw [← this]
  exact congrArg val e
theorem val_cut (zs : List Int) (k : Nat) (h : k ≤ zs.length) : val zs = val (zs.take k) * 10 ^ (zs.length - k) + val (zs.drop k) := by
  have := val_append (zs.take k) (zs.drop k)
  rwa [List.take_append_drop, List.length_drop] at this
theorem digs_of_take (zs : List Int) (h : digs zs) (k : Nat) : digs (zs.take k) := fun x hx => h x (List.mem_of_mem_take hx)
theorem digs_of_drop (zs : List Int) (h : digs zs) (k : Nat) : digs (zs.drop k) := fun x hx => h x (List.mem_of_mem_drop hx)
theorem mod_last (zs : List Int) (h : 0 < zs.length) (hd : digs zs) : val zs % 10 = zs.getD (zs.length - 1) 0 - 48 := by
  have hx := hd (zs.getD (zs.length - 1) 0) (by simp [List.getD, show zs.length - 1 < zs.length by omega])
  rw [val_last zs h]; omega
theorem div_first (zs : List Int) (h : 0 < zs.length) (hd : digs zs) : val zs / 10 ^ (zs.length - 1) = zs.getD 0 0 - 48 := by
  have hb := val_bd _ (digs_of_drop zs hd 1)
  rw [List.length_drop] at hb
  rw [val_first zs h, Int.add_comm, Int.add_mul_ediv_right _ _ (by have := pow_pos' (zs.length - 1); omega), Int.ediv_eq_zero_of_lt hb.1 hb.2]
  omega
end Dec
end Go.Proofs.Qxb6617070a
