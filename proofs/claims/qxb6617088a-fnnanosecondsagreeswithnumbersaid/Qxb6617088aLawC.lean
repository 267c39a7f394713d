/-
  The law FnNanosecondsAgreesWithNumber: the walk.
-/
import Derived.Test.Qxb6617088aNum
import Derived.Deep.QuietTactic
import Derived.BigQuiet
namespace Go.Proofs.Qxb6617088a
open Go.RowKit
set_option linter.unusedSimpArgs false
set_option linter.unusedVariables false

theorem lawC_great (t : ByteArray) (w : World) (l1 : t.size ≤ maxLen) (h : 65536 < t.size) :
    Calls Try.prog 4 #[.string t] w fun e w' => e = .returned (.bool true) ∧ w' = w := by
  unfold maxLen at l1
  by_cases h2 : 1048576 < t.size
  · go_enter Try.func4, Try.ntmps4
    go_wp2
    go_ret
    exact ⟨rfl, rfl⟩
  · go_enter Try.func4, Try.ntmps4
    go_wp2
    go_ret
    exact ⟨rfl, rfl⟩

theorem extract_take' (s : ByteArray) (k : Nat) : (s.extract 0 k).data.toList = s.data.toList.take k := by
  rw [ByteArray.data_extract, Array.toList_extract]; simp

theorem cut_h (s : ByteArray) (k : Nat) (K : Int) (hK : K = (k : Int)) (h : k ≤ s.size) (wx : World) : (Instr.slice 9 (.string s) none (some (.int .i64 K)) none).run Try.prog wx = .ok (.string (s.extract 0 k)) wx := by
  subst hK
  rw [run_slice_string_h (P := Try.prog) wx 9 s Try.underlying9 .i64 k (by omega) (by omega)]
  rfl
theorem idx_at (s : ByteArray) (k : Nat) (K : Int) (hK : K = (k : Int)) (h : k < s.size) (wx : World) : (Instr.index 9 (.string s) (.int .i64 K)).run Try.prog wx = .ok (.int .u8 (s[k].toNat : Int)) wx := by
  subst hK
  rw [run_index_string (P := Try.prog) wx 9 s .i64 k Try.underlying9, dif_pos ⟨by omega, by omega⟩]
  rfl

/-- The digit at the end of a short row: what the law's last line asks. -/
theorem last_digit (hd : ByteArray) (k : Nat) (K : Int) (hK : K = (k : Int)) (hs : hd.size = k + 1) (hk : k ≤ 8) :
    ∃ (E : ByteArray) (D y : Int), 0 ≤ D ∧ D ≤ 2900000000 ∧ 0 ≤ y ∧ y ≤ 255 ∧ (∀ wx, (Instr.slice 9 (.string hd) none (some (.int .i64 K)) none).run Try.prog wx = .ok (.string E) wx) ∧
      (∀ wx, (Instr.index 9 (.string hd) (.int .i64 K)).run Try.prog wx = .ok (.int .u8 y) wx) ∧
      (∀ wx, Calls Try.prog 8 #[.string E] wx fun e w' => e = .returned (.int .i64 D) ∧ w' = wx) ∧ val hd.data.toList = D * 10 + (y - 48) % 256 := by
  have hlk : k < hd.size := by omega
  have hl : (hd.data.toList.take k).length ≤ 8 := by rw [List.length_take, len_list]; omega
  have hb := val_bd (hd.data.toList.take k)
  have hp8 := pow_le _ 8 hl
  have h8 : (10 : Int) ^ 8 = 100000000 := by decide
  have hn : numb (hd.extract 0 k).data.toList = val (hd.data.toList.take k) := by rw [extract_take', numb_small _ (by omega)]
  refine ⟨hd.extract 0 k, val (hd.data.toList.take k), (hd[k].toNat : Int), hb.1, by omega, by omega, by have := hd[k].toNat_lt; omega, cut_h hd k K hK (by omega), idx_at hd k K hK hlk, fun wx => ?_, ?_⟩
  · have := zznumber_any (hd.extract 0 k) wx (by rw [ByteArray.size_extract]; omega)
    rwa [hn] at this
  · have h1 := take_snoc hd k hlk
    rw [take_all hd (k + 1) (by omega)] at h1
    rw [h1, val_snoc, ← h1]
    rfl

theorem grown_drewN {W w : World} (h : Grown W w) (n : Nat) : Grown W (w.drewN n) := h

/-- The law at a text of at most nine bytes. -/
theorem lawC_short (t : ByteArray) (w : World) (h : t.size ≤ 9) :
    Calls Try.prog 4 #[.string t] w fun e w' => e = .returned (.bool true) ∧ Grown w w' := by
  have d1 : decide ((65536 : Int) < (t.size : Int)) = false := decide_eq_false (by omega)
  have d2 : decide ((9 : Int) < (t.size : Int)) = false := decide_eq_false (by omega)
  go_enter Try.func4, Try.ntmps4
  go_wp2_with (go_at_call 9; go_in)
  go_loop [4, 5] (fun a i => ∃ q : Nat, t.size ≤ q ∧ q ≤ 9 ∧ i = .int .i64 q ∧ a = .int .i64 (10 ^ (q - t.size))) (fun _ i => 9 - (intOf i).toNat)
  case atStart => exact ⟨t.size, Nat.le_refl _, by omega, rfl, by simp⟩
  case round =>
    obtain ⟨q, hq1, hq2, rfl, rfl⟩ := hrel
    have hp := pow_le (q - t.size) 9 (by omega)
    have hpp := pow_pos' (q - t.size)
    have h9 : (10 : Int) ^ 9 = 1000000000 := by decide
    rw [h9] at hp
    obtain ⟨A, hA⟩ : ∃ A : Int, A = 10 ^ (q - t.size) := ⟨_, rfl⟩
    rw [← hA] at hp hpp
    rw [← hA]
    have HA := hide hA
    clear h9 hA
    by_cases hlt : q < 9
    · go_wp2_with fail
      go_round
      case rel => exact ⟨q + 1, by omega, by omega, by go_num, congrArg (Value.int .i64) (by rw [show q + 1 - t.size = q - t.size + 1 by omega, Int.pow_succ, ← HA.out])⟩
      case measure => simp [intOf]; omega
    · obtain ⟨M, hM⟩ : ∃ M, M = numb t.data.toList := ⟨_, rfl⟩
      have hMv : M = val t.data.toList := by rw [hM, numb_small _ (by rw [len_list]; exact h)]
      have hb := val_bd t.data.toList
      have hN : nano t.data.toList = M * A := by
        rw [nano_eq, take_all t 9 h, len_list, hMv, HA.out, show q = 9 by omega]
        congr 2
        omega
      have hnb := nanoAt_bd t.data.toList 9
      have hNe : nano t.data.toList = nanoAt t.data.toList 9 := rfl
      rw [← hNe, hN] at hnb
      have h9 : (10 : Int) ^ 9 = 1000000000 := by decide
      have p0 : 0 ≤ M * A := hnb.1
      have p1 : M * A ≤ 29000000000 := by omega
      have HM := hide hM.symm
      have HN := hide hN
      have HMV := hide hMv
      clear hM hMv hb hN hnb hNe h9
      go_wp2_with fail
      refine (zznumber_any t _ (by omega)).mono ?_
      rw [HM.out]
      rintro e w' ⟨rfl, rfl⟩
      go_wp2_with fail
      refine (zznano_any t _ (by omega)).mono ?_
      rw [HN.out]
      rintro e w' ⟨rfl, rfl⟩
      by_cases hz : t.size = 0
      · have hz0 : t.size < 1 := by omega
        clear hz
        go_wp2_with fail
        go_ret
        exact ⟨rfl, Grown.refl _⟩
      · have hz0 : 1 ≤ t.size := by omega
        clear hz
        obtain ⟨E, D, y, D0, D1, y0, y1, r1, r2, hnum, hL⟩ := last_digit t (t.size - 1) ((t.size : Int) - 1) (by omega) (by omega) (by omega)
        rw [← HMV.out] at hL
        have HNUM := hide hnum
        have HL := hide hL
        clear hnum hL
        have hw1 : IntKind.i64.wrap ((t.size : Int) - 1) = (t.size : Int) - 1 := IntWalk.i64_in _ (by omega)
        have hw2 : IntKind.i64.wrap (D * 10) = D * 10 := IntWalk.i64_in _ (by omega)
        go_wp2_with fail
        go_quiet ((go_at_call 8; exact Calls.quiet_of_same (HNUM.out _)))
        go_wp2_with fail
        go_ret
        exact ⟨congrArg (fun b => Ending.returned (.bool b)) (beq_iff_eq.2 HL.out), grown_drewN (Grown.refl _) _⟩

/-- The law at a longer text. -/
theorem lawC_long (t : ByteArray) (w : World) (h : 9 < t.size) (hh : t.size ≤ 65536) :
    Calls Try.prog 4 #[.string t] w fun e w' => e = .returned (.bool true) ∧ Grown w w' := by
  have d1 : decide ((65536 : Int) < (t.size : Int)) = false := decide_eq_false (by omega)
  obtain ⟨hd, hhd, r0⟩ : ∃ hd : ByteArray, hd = t.extract 0 9 ∧ ∀ wx, (Instr.slice 9 (.string t) none (some (.int .i64 9)) none).run Try.prog wx = .ok (.string hd) wx := ⟨_, rfl, cut_h t 9 9 rfl (by omega)⟩
  have hs : hd.size = 9 := by rw [hhd, ByteArray.size_extract]; omega
  have hl : hd.data.toList = t.data.toList.take 9 := by rw [hhd, extract_take']
  obtain ⟨M, hM⟩ : ∃ M, M = val hd.data.toList := ⟨_, rfl⟩
  have hn : numb hd.data.toList = M := by rw [numb_small _ (by rw [len_list]; omega), hM]
  have hN : nano t.data.toList = M := by
    rw [nano_eq, hM, hl, len_list, show 9 - min 9 t.size = 0 by omega]
    simp
  have hb := val_bd hd.data.toList
  rw [len_list, hs, ← hM] at hb
  have h9 : (10 : Int) ^ 9 = 1000000000 := by decide
  have M0 : 0 ≤ M := hb.1
  have M1 : M ≤ 29000000000 := by omega
  obtain ⟨E, D, y, D0, D1, y0, y1, r1, r2, hnum, hL⟩ := last_digit hd 8 8 rfl (by omega) (by omega)
  rw [← hM] at hL
  have z1 : hd.size ≤ 9 := by omega
  have HN1 := hide hn
  have HN := hide hN
  have HNUM := hide hnum
  have HL := hide hL
  clear hhd hs hl hM hn hN hb h9 hnum hL
  have hw2 : IntKind.i64.wrap (D * 10) = D * 10 := IntWalk.i64_in _ (by omega)
  go_enter Try.func4, Try.ntmps4
  go_wp2_with (go_at_call 9; go_in)
  go_loop [4, 5] (fun a i => i = .int .i64 9 ∧ a = .int .i64 1) (fun _ i => 0)
  case atStart => exact ⟨rfl, rfl⟩
  case round =>
    obtain ⟨rfl, rfl⟩ := hrel
    go_wp2_with fail
    refine (zznumber_any hd _ (by omega)).mono ?_
    rw [HN1.out]
    rintro e w' ⟨rfl, rfl⟩
    go_wp2_with fail
    refine (zznano_any t _ (by omega)).mono ?_
    rw [HN.out]
    rintro e w' ⟨rfl, rfl⟩
    go_wp2_with fail
    go_quiet ((go_at_call 8; exact Calls.quiet_of_same (HNUM.out _)))
    go_wp2_with fail
    go_ret
    exact ⟨congrArg (fun b => Ending.returned (.bool b)) (beq_iff_eq.2 HL.out), grown_drewN (Grown.refl _) _⟩
end Go.Proofs.Qxb6617088a
