/-
  The law FnNanosecondsDigitAtEitherEnd: the walk.
-/
import Derived.Test.Qxb6617088aNum
import Derived.Test.Qxb6617088aEnds
import Derived.Laws.IdiomStrings
namespace Go.Proofs.Qxb6617088a
open Go.RowKit
set_option linter.unusedSimpArgs false
set_option linter.unusedVariables false

theorem lawB_great (x : Int) (t : ByteArray) (w : World) (l1 : t.size ≤ maxLen) (h : 65536 < t.size) :
    Calls Try.prog 5 #[.int .u8 x, .string t] w fun e w' => e = .returned (.bool true) ∧ w' = w := by
  unfold maxLen at l1
  by_cases h2 : 1048576 < t.size
  · go_enter Try.func5, Try.ntmps5
    go_wp2
    go_ret
    exact ⟨rfl, rfl⟩
  · go_enter Try.func5, Try.ntmps5
    go_wp2
    go_ret
    exact ⟨rfl, rfl⟩
theorem lawB_nodigit (x : Int) (t : ByteArray) (w : World) (l1 : t.size ≤ 65536) (h : ¬ (48 ≤ x ∧ x ≤ 57)) :
    Calls Try.prog 5 #[.int .u8 x, .string t] w fun e w' => e = .returned (.bool true) ∧ w' = w := by
  by_cases h2 : x < 48
  · clear h
    go_enter Try.func5, Try.ntmps5
    go_wp2
    go_ret
    exact ⟨rfl, rfl⟩
  · have h3 : 57 < x := by omega
    have d : decide (x < 48) = false := decide_eq_false h2
    clear h h2
    go_enter Try.func5, Try.ntmps5
    go_wp2
    go_ret
    exact ⟨rfl, rfl⟩

/-- string([]byte{c}). -/
theorem conv_one (x : Int) (c : UInt8) (hc : (c.toNat : Int) = x) (w : World) :
    (convert 26 9 (.slice (some ⟨w.heap.size, 0, none⟩) 1 1)).run Try.prog (w.alloc (.cells #[.int .u8 x] 5)) = .ok (.string ⟨#[c]⟩) (w.alloc (.cells #[.int .u8 x] 5)) := by
  have := run_convert_bytes_back (P := Try.prog) (w.alloc (.cells #[.int .u8 x] 5)) 26 9 5 ⟨w.heap.size, 0, none⟩ 1 [c] Try.underlying26 Try.underlying5 Try.underlying9 (fun j hj => by
    obtain rfl : j = 0 := by simpa using hj
    simp [Addr.add, hc])
  simpa using this

set_option maxHeartbeats 1600000 in
theorem lawB_row (x : Int) (t : ByteArray) (w : World) (l1 : t.size ≤ 65536) (h1 : 48 ≤ x) (h2 : x ≤ 57) :
    Calls Try.prog 5 #[.int .u8 x, .string t] w fun e w' => e = .returned (.bool true) ∧ Grown w w' := by
  have d1 : decide ((65536 : Int) < (t.size : Int)) = false := decide_eq_false (by omega)
  have d2 : decide (x < 48) = false := decide_eq_false (by omega)
  have d3 : decide (57 < x) = false := decide_eq_false (by omega)
  obtain ⟨c, hc⟩ : ∃ c : UInt8, (c.toNat : Int) = x := ⟨UInt8.ofNat x.toNat, by simp; omega⟩
  obtain ⟨cs, hcs, hconv⟩ : ∃ cs : ByteArray, cs = ⟨#[c]⟩ ∧ (convert 26 9 (.slice (some ⟨w.heap.size, 0, none⟩) 1 1)).run Try.prog (w.alloc (.cells #[.int .u8 x] 5)) = .ok (.string cs) (w.alloc (.cells #[.int .u8 x] 5)) := ⟨_, rfl, conv_one x c hc w⟩
  have z1 : cs.size ≤ 1 := by rw [hcs]; exact Nat.le_refl _
  have HCS := hide hcs
  have HC := hide hc
  clear hc hcs
  go_enter Try.func5, Try.ntmps5
  go_wp2_with (go_at_call 11; go_in)
  go_loop [5] (fun i => ∃ k : Nat, k ≤ t.size ∧ i = .int .i64 k ∧ Hid (∀ j (h : j < k) (h' : j < t.size), 48 ≤ (t[j].toNat : Int) ∧ (t[j].toNat : Int) ≤ 57)) (fun i => t.size - (intOf i).toNat)
  case atStart => exact ⟨0, Nat.zero_le _, rfl, fun j h => absurd h (by omega)⟩
  case round =>
    obtain ⟨k, hk, rfl, HD⟩ := hrel
    by_cases hlt : k < t.size
    · by_cases hd : 48 ≤ (t[k].toNat : Int) ∧ (t[k].toNat : Int) ≤ 57
      · obtain ⟨e1, e2⟩ := hd
        have q1 : decide ((t[k].toNat : Int) < 48) = false := decide_eq_false (by omega)
        have q2 : decide (57 < (t[k].toNat : Int)) = false := decide_eq_false (by omega)
        go_wp2_with fail
        go_round
        case rel =>
          refine ⟨k + 1, by omega, by go_num, fun j h h' => ?_⟩
          by_cases hj : j < k
          · exact HD.out j hj h'
          · obtain rfl : j = k := by omega
            exact ⟨e1, e2⟩
        case measure => simp [intOf]; omega
      · go_wp2_with fail
        all_goals
          go_ret
          exact ⟨rfl, Grown.refl _⟩
    · obtain ⟨NT, hNT⟩ : ∃ N, N = nano t.data.toList := ⟨_, rfl⟩
      have hb := nanoAt_bd t.data.toList 9
      have h9 : (10 : Int) ^ 9 = 1000000000 := by decide
      have b0 : 0 ≤ NT := by rw [hNT]; exact hb.1
      have b1 : NT ≤ 29000000000 := by rw [hNT]; unfold nano; omega
      have hdig : ∀ y ∈ t.data.toList, 0 ≤ dv y ∧ dv y ≤ 9 := by
        intro y hy
        obtain ⟨j, hj, rfl⟩ := List.getElem_of_mem hy
        rw [len_list] at hj
        have := HD.out j (by omega) hj
        have e : t.data.toList[j]'(by rw [len_list]; exact hj) = t[j] := rfl
        rw [e, dv_digit _ this.1 this.2]
        omega
      have hdc : dv c = x - 48 := by
        rw [dv_digit c (by rw [HC.out]; exact h1) (by rw [HC.out]; exact h2), HC.out]
      have hE1 : nano (cs ++ t).data.toList = (x - 48) * 100000000 + NT / 10 := by
        have e : (cs ++ t).data.toList = c :: t.data.toList := by rw [HCS.out]; simp
        rw [e, nano_front c _ hdig, hdc, hNT]
      have hbk : (t ++ cs).data.toList = t.data.toList ++ [c] := by rw [HCS.out]; simp
      have HNT := hide hNT.symm
      have HE1 := hide hE1
      have HBK := hide hbk
      have HDC := hide hdc
      clear hNT hb h9 hdig hdc hE1 hbk HD
      go_wp2_with fail
      refine (zznano_any t _ (by omega)).mono ?_
      rw [HNT.out]
      rintro e w' ⟨rfl, rfl⟩
      go_wp2_with fail
      refine (zznano_any (cs ++ t) _ (by rw [ByteArray.size_append]; omega)).mono ?_
      rw [HE1.out]
      rintro e w' ⟨rfl, rfl⟩
      by_cases ht9 : t.size < 9
      · have hE2 : nano (t ++ cs).data.toList = NT + (x - 48) * 10 ^ (8 - t.size) := by
          rw [HBK.out, nano_back c _ (by rw [len_list]; omega), HDC.out, HNT.out, len_list]
        have HE2 := hide hE2
        clear hE2
        go_wp2_with fail
        go_loop [9, 10] (fun a i => ∃ q : Nat, t.size ≤ q ∧ q ≤ 8 ∧ i = .int .i64 q ∧ a = .int .i64 ((x - 48) * 10 ^ (q - t.size))) (fun _ i => 8 - (intOf i).toNat)
        case atStart => exact ⟨t.size, Nat.le_refl _, by omega, rfl, by simp⟩
        case round =>
          obtain ⟨q, hq1, hq2, rfl, rfl⟩ := hrel
          have hp := pow_le (q - t.size) 8 (by omega)
          have hpp := pow_pos' (q - t.size)
          have h8 : (10 : Int) ^ 8 = 100000000 := by decide
          have a0 : 0 ≤ (x - 48) * 10 ^ (q - t.size) := Int.mul_nonneg (by omega) (by omega)
          have a1 : (x - 48) * 10 ^ (q - t.size) ≤ 9 * 10 ^ (q - t.size) := Int.mul_le_mul_of_nonneg_right (by omega) (by omega)
          obtain ⟨A, hA⟩ : ∃ A, A = (x - 48) * 10 ^ (q - t.size) := ⟨_, rfl⟩
          rw [← hA] at a0 a1 ⊢
          have a2 : A ≤ 900000000 := by omega
          have HA := hide hA
          clear hp hpp h8 a1 hA
          by_cases hlt8 : q < 8
          · go_wp2_with fail
            go_round
            case rel => exact ⟨q + 1, by omega, by omega, by go_num, congrArg (Value.int .i64) (by rw [show q + 1 - t.size = q - t.size + 1 by omega, Int.pow_succ, ← Int.mul_assoc, ← HA.out])⟩
            case measure => simp [intOf]; omega
          · have hA8 : nano (t ++ cs).data.toList = NT + A := by
              rw [HE2.out, HA.out, show q = 8 by omega]
            have HA8 := hide hA8
            clear hA8
            go_wp2_with fail
            refine (zznano_any (t ++ cs) _ (by rw [ByteArray.size_append]; omega)).mono ?_
            rw [HA8.out]
            rintro e w' ⟨rfl, rfl⟩
            go_wp2_with fail
            go_ret
            exact ⟨rfl, (Grown.refl _).alloc _ _⟩
      · have hE2 : nano (t ++ cs).data.toList = NT := by
          rw [HBK.out, nano_past c _ (by rw [len_list]; omega), HNT.out]
        have HE2 := hide hE2
        clear hE2
        go_wp2_with fail
        refine (zznano_any (t ++ cs) _ (by rw [ByteArray.size_append]; omega)).mono ?_
        rw [HE2.out]
        rintro e w' ⟨rfl, rfl⟩
        go_wp2_with fail
        go_ret
        exact ⟨rfl, (Grown.refl _).alloc _ _⟩
end Go.Proofs.Qxb6617088a
