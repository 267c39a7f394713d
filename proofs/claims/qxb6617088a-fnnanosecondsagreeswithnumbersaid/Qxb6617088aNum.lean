/-
  The walks over number, ZZnumber, nanoseconds, ZZnanoseconds.
-/
import Derived.Test.Qxb6617088aProg
import Derived.Test.Qxb6617088aMath
import Derived.WalkKit
import Derived.WalkLawsBesides
import Derived.WalkSpells
import Derived.WalkSmall
import Derived.Below
namespace Go.Proofs.Qxb6617088a
open Go.RowKit
set_option linter.unusedSimpArgs false
set_option linter.unusedVariables false

theorem hide {p : Prop} (h : p) : Hid p := h
theorem take_snoc (s : ByteArray) (k : Nat) (h : k < s.size) : s.data.toList.take (k + 1) = s.data.toList.take k ++ [s[k]] := by
  rw [List.take_succ_eq_append_getElem (by simpa using h)]; rfl
theorem take_all (s : ByteArray) (k : Nat) (h : s.size ≤ k) : s.data.toList.take k = s.data.toList :=
  List.take_of_length_le (by simpa using h)
theorem len_list (s : ByteArray) : s.data.toList.length = s.size := by simp

theorem number_any (s : ByteArray) (w : World) (hs : s.size ≤ 1000000) :
    Calls Try.prog 14 #[.string s] w fun e w' => e = .returned (.int .i64 (numb s.data.toList)) ∧ w' = w := by
  go_enter Try.func14, Try.ntmps14
  go_wp2
  go_loop [3, 7] (fun n i => ∃ k : Nat, k ≤ s.size ∧ i = .int .i64 k ∧ n = .int .i64 (numb (s.data.toList.take k))) (fun _ i => s.size - (intOf i).toNat)
  case atStart => exact ⟨0, Nat.zero_le _, rfl, by rw [List.take_zero, numb_nil]⟩
  case round =>
    obtain ⟨k, hk, rfl, rfl⟩ := hrel
    obtain ⟨N, hN⟩ : ∃ N, N = numb (s.data.toList.take k) := ⟨_, rfl⟩
    rw [← hN]
    have HN := hide hN
    clear hN
    by_cases hlt : k < s.size
    · have HT := hide (take_snoc s k hlt)
      go_wp2
      go_round
      case rel => exact ⟨k + 1, by omega, by go_num, by rw [HT.out, numb_snoc, ← HN.out]; rfl⟩
      case measure => simp [intOf]; omega
    · have HT := hide (take_all s k (by omega))
      go_wp2
      go_ret
      exact ⟨by rw [← HT.out]; exact congrArg (fun z => Ending.returned (.int .i64 z)) HN.out, rfl⟩

theorem zznumber_any (s : ByteArray) (w : World) (hs : s.size ≤ 1000000) :
    Calls Try.prog 8 #[.string s] w fun e w' => e = .returned (.int .i64 (numb s.data.toList)) ∧ w' = w := by
  go_enter Try.func8, Try.ntmps8
  go_wp2_with (go_at_call 14; refine (number_any s _ hs).mono ?_; rintro e w' ⟨rfl, rfl⟩)
  go_ret
  exact ⟨rfl, rfl⟩

theorem nano_any (s : ByteArray) (w : World) (hs : s.size ≤ 1000000) :
    Calls Try.prog 15 #[.string s] w fun e w' => e = .returned (.int .i64 (nano s.data.toList)) ∧ w' = w := by
  go_enter Try.func15, Try.ntmps15
  go_wp2
  go_loop [3, 5] (fun n i => ∃ k : Nat, k ≤ 9 ∧ i = .int .i64 k ∧ n = .int .i64 (nanoAt s.data.toList k)) (fun _ i => 9 - (intOf i).toNat)
  case atStart => exact ⟨0, Nat.zero_le _, rfl, by rw [nanoAt_zero]⟩
  case round =>
    obtain ⟨k, hk, rfl, rfl⟩ := hrel
    have hb := nanoAt_bd s.data.toList k
    obtain ⟨N, hN⟩ : ∃ N, N = nanoAt s.data.toList k := ⟨_, rfl⟩
    rw [← hN] at hb ⊢
    have HN := hide hN
    clear hN
    by_cases hlt : k < 9
    · have hp := pow_le k 8 (by omega)
      have h8 : (10 : Int) ^ 8 = 100000000 := by decide
      have b0 : 0 ≤ N := hb.1
      have b1 : N ≤ 2900000000 := by omega
      clear hb hp h8
      by_cases hin : k < s.size
      · have HT := hide (nanoAt_in s.data.toList k (by rw [len_list]; exact hin))
        have hdv := dv_bd s[k]
        unfold dv at hdv
        go_wp2
        go_round
        case rel => exact ⟨k + 1, by omega, by go_num, by rw [HT.out, ← HN.out]; rfl⟩
        case measure => simp [intOf]; omega
      · have HT := hide (nanoAt_out s.data.toList k (by rw [len_list]; omega))
        go_wp2
        go_round
        case rel => exact ⟨k + 1, by omega, by go_num, by rw [HT.out, ← HN.out]⟩
        case measure => simp [intOf]; omega
    · obtain rfl : k = 9 := by omega
      clear hb
      go_wp2
      go_ret
      exact ⟨congrArg (fun z => Ending.returned (.int .i64 z)) HN.out, rfl⟩

theorem zznano_any (s : ByteArray) (w : World) (hs : s.size ≤ 1000000) :
    Calls Try.prog 10 #[.string s] w fun e w' => e = .returned (.int .i64 (nano s.data.toList)) ∧ w' = w := by
  go_enter Try.func10, Try.ntmps10
  go_wp2_with (go_at_call 15; refine (nano_any s _ hs).mono ?_; rintro e w' ⟨rfl, rfl⟩)
  go_ret
  exact ⟨rfl, rfl⟩
end Go.Proofs.Qxb6617088a
