/-
  The law FnNumberSplit: the walk.
-/
import Derived.Test.Qxb6617088aNum
namespace Go.Proofs.Qxb6617088a
open Go.RowKit
set_option linter.unusedSimpArgs false
set_option linter.unusedVariables false

theorem bytes7_any (s t : ByteArray) (w : World) (l0 : s.size ≤ 9223372036854775807) (l1 : t.size ≤ 9223372036854775807) :
    Calls Try.prog 7 #[.string s, .string t] w fun e w' => (∃ b, e = .returned (.bool b)) ∧ w' = w := by
  go_enter Try.func7, Try.ntmps7
  go_wp2
  all_goals
    go_ret
    exact ⟨⟨_, rfl⟩, rfl⟩
theorem bytes7_ok (s t : ByteArray) (w : World) (l0 : s.size ≤ 65536) (l1 : t.size ≤ 65536) :
    Calls Try.prog 7 #[.string s, .string t] w fun e w' => e = .returned (.bool true) ∧ w' = w := by
  go_enter Try.func7, Try.ntmps7
  go_wp2
  go_ret
  exact ⟨rfl, rfl⟩

theorem lawA_great (s t : ByteArray) (w : World) (l0 : s.size ≤ maxLen) (l1 : t.size ≤ maxLen) (h : 65536 < s.size ∨ 65536 < t.size) :
    Calls Try.prog 3 #[.string s, .string t] w fun e w' => e = .returned (.bool true) ∧ w' = w := by
  unfold maxLen at l0 l1
  go_enter Try.func3, Try.ntmps3
  go_wp2_with fail
  refine (bytes7_any s t _ l0 l1).mono ?_
  rintro e w' ⟨⟨b, rfl⟩, rfl⟩
  cases b
  · go_wp2_with fail
    go_ret
    exact ⟨rfl, rfl⟩
  · by_cases h0 : 65536 < s.size
    · go_wp2_with fail
      go_ret
      exact ⟨rfl, rfl⟩
    · have h1 : 65536 < t.size := by omega
      go_wp2_with fail
      go_ret
      exact ⟨rfl, rfl⟩

theorem extract_take (s : ByteArray) (k : Nat) : (s.extract 0 k).data.toList = s.data.toList.take k := by
  rw [ByteArray.data_extract, Array.toList_extract]; simp

theorem lawA_row (s t : ByteArray) (w : World) (l0 : s.size ≤ 65536) (l1 : t.size ≤ 65536) :
    Calls Try.prog 3 #[.string s, .string t] w fun e w' => e = .returned (.bool true) ∧ w' = w := by
  have d0 : decide ((65536 : Int) < (s.size : Int)) = false := decide_eq_false (by omega)
  have d1 : decide ((65536 : Int) < (t.size : Int)) = false := decide_eq_false (by omega)
  go_enter Try.func3, Try.ntmps3
  go_wp2_with fail
  refine (bytes7_ok s t _ l0 l1).mono ?_
  rintro e w' ⟨rfl, rfl⟩
  go_wp2_with fail
  go_loop [5, 6] (fun p i => ∃ k : Nat, k ≤ t.size ∧ i = .int .i64 k ∧ p = .int .i64 (pw k)) (fun _ i => t.size - (intOf i).toNat)
  case atStart => exact ⟨0, Nat.zero_le _, rfl, by rw [pw_zero]⟩
  case round =>
    obtain ⟨k, hk, rfl, rfl⟩ := hrel
    obtain ⟨P, hP⟩ : ∃ P, P = pw k := ⟨_, rfl⟩
    rw [← hP]
    have HP := hide hP
    clear hP
    by_cases hlt : k < t.size
    · go_wp2_with fail
      go_round
      case rel => exact ⟨k + 1, by omega, by go_num, by rw [pw_succ, ← HP.out]⟩
      case measure => simp [intOf]; omega
    · go_wp2_with fail
      obtain ⟨NA, hNA⟩ : ∃ N, N = numb s.data.toList := ⟨_, rfl⟩
      obtain ⟨NB, hNB⟩ : ∃ N, N = numb t.data.toList := ⟨_, rfl⟩
      have hE : numb (s ++ t).data.toList = wrap64 (wrap64 (NA * P) + NB) := by
        rw [hNA, hNB, HP.out, show k = t.data.toList.length by rw [len_list]; omega, ← numb_append]
        congr 1
      have HNA := hide hNA.symm
      have HNB := hide hNB.symm
      have HE := hide hE
      clear hNA hNB hE
      refine (zznumber_any s _ (by omega)).mono ?_
      rw [HNA.out]
      rintro e w' ⟨rfl, rfl⟩
      go_wp2_with fail
      refine (zznumber_any (s ++ t) _ (by rw [ByteArray.size_append]; omega)).mono ?_
      rw [HE.out]
      rintro e w' ⟨rfl, rfl⟩
      go_wp2_with fail
      refine (zznumber_any t _ (by omega)).mono ?_
      rw [HNB.out]
      rintro e w' ⟨rfl, rfl⟩
      by_cases hz : s.size = 0
      · have hz0 : s.size < 1 := by omega
        clear hz
        go_wp2_with fail
        go_ret
        exact ⟨rfl, rfl⟩
      · have hz0 : 1 ≤ s.size := by omega
        clear hz
        obtain ⟨ND, hND⟩ : ∃ N, N = numb (s.extract 0 (s.size - 1)).data.toList := ⟨_, rfl⟩
        have hL : NA = wrap64 (wrap64 (ND * 10) + (((s[s.size - 1]'(by omega)).toNat : Int) - 48) % 256) := by
          have h1 := take_snoc s (s.size - 1) (by omega)
          rw [take_all s (s.size - 1 + 1) (by omega)] at h1
          have h2 := extract_take s (s.size - 1)
          rw [← HNA.out, h1, numb_snoc, hND, h2]
          rfl
        have HND := hide hND.symm
        have HL := hide hL
        clear hND hL
        go_wp2_with fail
        refine (zznumber_any (s.extract 0 (s.size - 1)) _ (by rw [ByteArray.size_extract]; omega)).mono ?_
        rw [HND.out]
        rintro e w' ⟨rfl, rfl⟩
        go_wp2_with fail
        go_ret
        exact ⟨congrArg (fun b => Ending.returned (.bool b)) (beq_iff_eq.2 HL.out), rfl⟩
end Go.Proofs.Qxb6617088a
