/-
  The law FnTrimSpaceStripsExactlyTheBlankEnds: the walk.
-/
import Derived.Test.Qxb6617070aSame
import Derived.Test.Qxb6617070aCopy
import Derived.Test.Qxb6617070aCut
namespace Go.Proofs.Qxb6617070a
open Go.RowKit
set_option linter.unusedSimpArgs false
set_option linter.unusedVariables false

theorem Trim.IsTrim.strip {zs rs : List Int} (h : Trim.IsTrim zs rs) :
    ∃ L, L + rs.length ≤ zs.length ∧ (∀ i, i < L → Trim.blank (zs.getD i 0) = true) ∧ Trim.sameB ((zs.take (L + rs.length)).drop L) rs = true ∧ Trim.allB (zs.drop (L + rs.length)) = true := by
  obtain ⟨l, r, rfl, hl, hr, _⟩ := h
  refine ⟨l.length, by simp, fun i hi => ?_, decide_eq_true ?_, ?_⟩
  · have := Trim.allB_get l hl i hi
    simpa [List.getD, List.getElem?_append, hi] using this
  · rw [List.take_append, List.drop_append]
    simp
  · rw [← List.append_assoc, List.drop_append]
    simp [hr]

theorem lawB_great (a : Option Addr) (n c : Nat) (w : World) (h : 65536 < n) (hm : n ≤ maxLen) :
    Calls Try.prog 6 #[.slice a n c] w fun e w' => e = .returned (.bool true) ∧ Below w.heap.size w w' := by
  unfold maxLen at hm
  by_cases h2 : 1048576 < n
  · go_enter Try.func6, Try.ntmps6
    go_wp2
    go_ret
    exact ⟨rfl, Below.refl _ _⟩
  · go_enter Try.func6, Try.ntmps6
    go_wp2
    go_ret
    exact ⟨rfl, Below.refl _ _⟩

set_option maxHeartbeats 6400000 in
theorem lawB_row (x : Addr) (n c : Nat) (zs : List Int) (w : World) (hn : n ≤ 65536) (hlen : zs.length = n) (hb : ∀ i, i < n → 0 ≤ zs.getD i 0 ∧ zs.getD i 0 ≤ 255)
    (hcell : ∀ i, i < n → w.cell? (x.add i) = some (.int .u8 (zs.getD i 0))) :
    Calls Try.prog 6 #[.slice (some x) n c] w fun e w' => e = .returned (.bool true) ∧ Below w.heap.size w w' := by
  have hmk := made n hn
  have h65 : decide ((65536 : Int) < (n : Int)) = false := decide_eq_false (by omega)
  have hnn := fun w => run_neq_slice_nil_any (P := Try.prog) w 22 5 (some x) n c 0 0 Try.underlying22
  obtain ⟨w2, hcp, s, hbel⟩ := copied x n c zs w hn hlen hb hcell
  have S := hide s
  have HBEL := hide hbel
  clear hlen hb hcell s hbel
  go_enter Try.func6, Try.ntmps6
  go_wp2_with (go_at_call 17; go_in)
  refine (zztrim_any _ _ _ zs _ S.out).mono ?_
  rintro e w' ⟨⟨a1, m, c1, rs, rfl, s1, t1⟩, rfl⟩
  have S1 := hide s1
  have T1 := hide t1
  clear s1 t1 hmk hcp hnn
  go_wp2_with fail
  refine (zztrim_any _ _ _ rs _ S1.out).mono ?_
  rintro e w' ⟨⟨a2, m2, c2, rs2, rfl, s2, t2⟩, rfl⟩
  obtain rfl : rs2 = rs := Trim.IsTrim.unique t2 (Trim.IsTrim.self T1.out.ends)
  have S2 := hide s2
  obtain rfl : m2 = m := s2.len.symm.trans S1.out.len
  clear s2 t2
  go_wp2_with fail
  refine (same_any _ _ _ _ _ _ rs2 rs2 _ S2.out S1.out).mono ?_
  rintro e w3 ⟨rfl, q, rfl⟩
  have hsame : Trim.sameB rs2 rs2 = true := decide_eq_true rfl
  rw [hsame]
  clear hsame
  obtain ⟨L, hL, hbl, hs1, hs2⟩ := T1.out.strip
  have hl1 := S1.out.len
  have hl := S.out.len
  rw [hl1, hl] at hL
  rw [hl1] at hs1 hs2
  have HBL := hide hbl
  have HS1 := hide hs1
  have HS2 := hide hs2
  clear hbl hs1 hs2 hl1 hl
  by_cases hm0 : m2 = 0
  · have hg : decide (0 < m2) = false := decide_eq_false (by omega)
    clear hm0
    have hg2 : decide (n < m2) = false := decide_eq_false (by omega)
    go_wp2_with (first | (go_at_call 20; refine (zzBlank_any _ _).mono ?_; rintro e w4 ⟨rfl, rfl⟩))
    go_loopw [7] (fun i wr => ∃ k q : Nat, k ≤ L ∧ i = .int .i64 k ∧ wr = w'.drewN q) (fun i _ => L + 1 - (intOf i).toNat)
    case atStart => exact ⟨0, q, Nat.zero_le _, rfl, rfl⟩
    case round =>
      obtain ⟨k, q2, hk, rfl, rfl⟩ := hrel
      by_cases hk0 : k = 0
      · have hk1 : decide (0 < k) = false := decide_eq_false (by omega)
        clear hk0
        have hkn : k + m2 ≤ n := by omega
        have hkm : (k : Int) ≤ (n : Int) - (m2 : Int) := by omega
        obtain ⟨A1, sA1, r1⟩ := (S.out.drewN q2).run_lh (k) (k + m2) ((k : Int)) ((k : Int) + (m2 : Int)) (by omega) (by omega) m2 (n - (k)) (by omega) hkn (by omega) rfl
        obtain ⟨A2, sA2, r2⟩ := S.out.run_l (k + m2) ((k : Int) + (m2 : Int)) (by omega) (n - (k + m2)) (n - (k + m2)) hkn rfl rfl
        have SA1 := hide sA1
        have SA2 := hide sA2
        clear sA1 sA2
        obtain ⟨B1, hB1⟩ : ∃ B1, Trim.sameB ((zs.take (k + m2)).drop (k)) rs2 = B1 := ⟨_, rfl⟩
        have HB1 := hide hB1
        obtain ⟨B2, hB2⟩ : ∃ B2, Trim.allB (zs.drop (k + m2)) = B2 := ⟨_, rfl⟩
        have HB2 := hide hB2
        clear hB1 hB2
        have hnext : (B1 && B2) = false → k < L := fun h => by
          rcases Nat.lt_or_ge (k) L with h' | h'
          · exact h'
          · have hKL : k = L := by omega
            rw [← HB1.out, ← HB2.out, hKL, HS1.out, HS2.out] at h
            cases h
        have HNX := hide hnext
        clear hnext
        cases B1
        · have hkL := HNX.out rfl
          go_wp2_with (first | (go_at_call 19; refine (same_any _ _ _ _ _ _ ((zs.take (k + m2)).drop (k)) rs2 _ SA1.out (S1.out.drewN q2)).mono ?_; rw [HB1.out]; rintro e w3 ⟨rfl, q3, rfl⟩) | (go_at_call 20; refine (zzBlank_any _ _).mono ?_; rintro e w4 ⟨rfl, rfl⟩) | (go_at_call 21; refine (zzAllBlank_any _ _ _ (zs.drop (k + m2)) _ (SA2.out.drewN _)).mono ?_; rw [HB2.out]; rintro e w4 ⟨rfl, rfl⟩))
          go_roundw
          case rel => exact ⟨k + 1, _, by omega, by go_num, rfl⟩
          case measure => simp [intOf]; omega
        · cases B2
          · have hkL := HNX.out rfl
            go_wp2_with (first | (go_at_call 19; refine (same_any _ _ _ _ _ _ ((zs.take (k + m2)).drop (k)) rs2 _ SA1.out (S1.out.drewN q2)).mono ?_; rw [HB1.out]; rintro e w3 ⟨rfl, q3, rfl⟩) | (go_at_call 20; refine (zzBlank_any _ _).mono ?_; rintro e w4 ⟨rfl, rfl⟩) | (go_at_call 21; refine (zzAllBlank_any _ _ _ (zs.drop (k + m2)) _ (SA2.out.drewN _)).mono ?_; rw [HB2.out]; rintro e w4 ⟨rfl, rfl⟩))
            go_roundw
            case rel => exact ⟨k + 1, _, by omega, by go_num, rfl⟩
            case measure => simp [intOf]; omega
          · go_wp2_with (first | (go_at_call 19; refine (same_any _ _ _ _ _ _ ((zs.take (k + m2)).drop (k)) rs2 _ SA1.out (S1.out.drewN q2)).mono ?_; rw [HB1.out]; rintro e w3 ⟨rfl, q3, rfl⟩) | (go_at_call 20; refine (zzBlank_any _ _).mono ?_; rintro e w4 ⟨rfl, rfl⟩) | (go_at_call 21; refine (zzAllBlank_any _ _ _ (zs.drop (k + m2)) _ (SA2.out.drewN _)).mono ?_; rw [HB2.out]; rintro e w4 ⟨rfl, rfl⟩))
            go_ret
            exact ⟨rfl, below_drewN HBEL.out _⟩
      · obtain ⟨j, rfl⟩ : ∃ j, k = j + 1 := ⟨k - 1, by omega⟩
        have hbj := HBL.out j (by omega)
        obtain ⟨b, off, ha, hc⟩ := S.out.cell (by omega)
        have hcx := hc j (by omega)
        simp only [Option.some.injEq, Addr.mk.injEq] at ha
        obtain ⟨rfl, rfl, _⟩ := ha
        obtain ⟨y, hy⟩ : ∃ y, y = zs.getD j 0 := ⟨_, rfl⟩
        rw [← hy] at hcx hbj
        rw [Nat.zero_add] at hcx
        clear hk0 hc hy
        have hkn : j + 1 + m2 ≤ n := by omega
        have hkm : (j : Int) + 1 ≤ (n : Int) - (m2 : Int) := by omega
        obtain ⟨A1, sA1, r1⟩ := (S.out.drewN q2).run_lh (j + 1) (j + 1 + m2) ((j : Int) + 1) ((j : Int) + 1 + (m2 : Int)) (by omega) (by omega) m2 (n - (j + 1)) (by omega) hkn (by omega) rfl
        obtain ⟨A2, sA2, r2⟩ := S.out.run_l (j + 1 + m2) ((j : Int) + 1 + (m2 : Int)) (by omega) (n - (j + 1 + m2)) (n - (j + 1 + m2)) hkn rfl rfl
        have SA1 := hide sA1
        have SA2 := hide sA2
        clear sA1 sA2
        obtain ⟨B1, hB1⟩ : ∃ B1, Trim.sameB ((zs.take (j + 1 + m2)).drop (j + 1)) rs2 = B1 := ⟨_, rfl⟩
        have HB1 := hide hB1
        obtain ⟨B2, hB2⟩ : ∃ B2, Trim.allB (zs.drop (j + 1 + m2)) = B2 := ⟨_, rfl⟩
        have HB2 := hide hB2
        clear hB1 hB2
        have hnext : (B1 && B2) = false → j + 1 < L := fun h => by
          rcases Nat.lt_or_ge (j + 1) L with h' | h'
          · exact h'
          · have hKL : j + 1 = L := by omega
            rw [← HB1.out, ← HB2.out, hKL, HS1.out, HS2.out] at h
            cases h
        have HNX := hide hnext
        clear hnext
        cases B1
        · have hkL := HNX.out rfl
          go_wp2_with (first | (go_at_call 19; refine (same_any _ _ _ _ _ _ ((zs.take (j + 1 + m2)).drop (j + 1)) rs2 _ SA1.out (S1.out.drewN q2)).mono ?_; rw [HB1.out]; rintro e w3 ⟨rfl, q3, rfl⟩) | (go_at_call 20; refine (zzBlank_any _ _).mono ?_; rintro e w4 ⟨rfl, rfl⟩) | (go_at_call 21; refine (zzAllBlank_any _ _ _ (zs.drop (j + 1 + m2)) _ (SA2.out.drewN _)).mono ?_; rw [HB2.out]; rintro e w4 ⟨rfl, rfl⟩))
          go_roundw
          case rel => exact ⟨j + 1 + 1, _, by omega, by go_num, rfl⟩
          case measure => simp [intOf]; omega
        · cases B2
          · have hkL := HNX.out rfl
            go_wp2_with (first | (go_at_call 19; refine (same_any _ _ _ _ _ _ ((zs.take (j + 1 + m2)).drop (j + 1)) rs2 _ SA1.out (S1.out.drewN q2)).mono ?_; rw [HB1.out]; rintro e w3 ⟨rfl, q3, rfl⟩) | (go_at_call 20; refine (zzBlank_any _ _).mono ?_; rintro e w4 ⟨rfl, rfl⟩) | (go_at_call 21; refine (zzAllBlank_any _ _ _ (zs.drop (j + 1 + m2)) _ (SA2.out.drewN _)).mono ?_; rw [HB2.out]; rintro e w4 ⟨rfl, rfl⟩))
            go_roundw
            case rel => exact ⟨j + 1 + 1, _, by omega, by go_num, rfl⟩
            case measure => simp [intOf]; omega
          · go_wp2_with (first | (go_at_call 19; refine (same_any _ _ _ _ _ _ ((zs.take (j + 1 + m2)).drop (j + 1)) rs2 _ SA1.out (S1.out.drewN q2)).mono ?_; rw [HB1.out]; rintro e w3 ⟨rfl, q3, rfl⟩) | (go_at_call 20; refine (zzBlank_any _ _).mono ?_; rintro e w4 ⟨rfl, rfl⟩) | (go_at_call 21; refine (zzAllBlank_any _ _ _ (zs.drop (j + 1 + m2)) _ (SA2.out.drewN _)).mono ?_; rw [HB2.out]; rintro e w4 ⟨rfl, rfl⟩))
            go_ret
            exact ⟨rfl, below_drewN HBEL.out _⟩
  · have hen := T1.out.ends (by rw [S1.out.len]; omega)
    rw [S1.out.len] at hen
    obtain ⟨b1, off1, ha1, hc1⟩ := S1.out.cell (by omega)
    subst ha1
    have hcf := hc1 0 (by omega)
    have hcl := hc1 (m2 - 1) (by omega)
    obtain ⟨y0, hy0⟩ : ∃ y, y = rs2.getD 0 0 := ⟨_, rfl⟩
    obtain ⟨y1, hy1⟩ : ∃ y, y = rs2.getD (m2 - 1) 0 := ⟨_, rfl⟩
    rw [← hy0] at hcf hen
    rw [← hy1] at hcl hen
    obtain ⟨hb0, hb1⟩ := hen
    have hm1 : 0 < m2 := by omega
    simp only [Nat.add_zero] at hcf
    clear hc1 hy0 hy1 hm0
    have hg2 : decide (n < m2) = false := decide_eq_false (by omega)
    go_wp2_with (first | (go_at_call 20; refine (zzBlank_any _ _).mono ?_; rintro e w4 ⟨rfl, rfl⟩))
    go_loopw [7] (fun i wr => ∃ k q : Nat, k ≤ L ∧ i = .int .i64 k ∧ wr = w'.drewN q) (fun i _ => L + 1 - (intOf i).toNat)
    case atStart => exact ⟨0, q, Nat.zero_le _, rfl, rfl⟩
    case round =>
      obtain ⟨k, q2, hk, rfl, rfl⟩ := hrel
      clear hcf hcl hb0 hb1
      by_cases hk0 : k = 0
      · have hk1 : decide (0 < k) = false := decide_eq_false (by omega)
        clear hk0
        have hkn : k + m2 ≤ n := by omega
        have hkm : (k : Int) ≤ (n : Int) - (m2 : Int) := by omega
        obtain ⟨A1, sA1, r1⟩ := (S.out.drewN q2).run_lh (k) (k + m2) ((k : Int)) ((k : Int) + (m2 : Int)) (by omega) (by omega) m2 (n - (k)) (by omega) hkn (by omega) rfl
        obtain ⟨A2, sA2, r2⟩ := S.out.run_l (k + m2) ((k : Int) + (m2 : Int)) (by omega) (n - (k + m2)) (n - (k + m2)) hkn rfl rfl
        have SA1 := hide sA1
        have SA2 := hide sA2
        clear sA1 sA2
        obtain ⟨B1, hB1⟩ : ∃ B1, Trim.sameB ((zs.take (k + m2)).drop (k)) rs2 = B1 := ⟨_, rfl⟩
        have HB1 := hide hB1
        obtain ⟨B2, hB2⟩ : ∃ B2, Trim.allB (zs.drop (k + m2)) = B2 := ⟨_, rfl⟩
        have HB2 := hide hB2
        clear hB1 hB2
        have hnext : (B1 && B2) = false → k < L := fun h => by
          rcases Nat.lt_or_ge (k) L with h' | h'
          · exact h'
          · have hKL : k = L := by omega
            rw [← HB1.out, ← HB2.out, hKL, HS1.out, HS2.out] at h
            cases h
        have HNX := hide hnext
        clear hnext
        cases B1
        · have hkL := HNX.out rfl
          go_wp2_with (first | (go_at_call 19; refine (same_any _ _ _ _ _ _ ((zs.take (k + m2)).drop (k)) rs2 _ SA1.out (S1.out.drewN q2)).mono ?_; rw [HB1.out]; rintro e w3 ⟨rfl, q3, rfl⟩) | (go_at_call 20; refine (zzBlank_any _ _).mono ?_; rintro e w4 ⟨rfl, rfl⟩) | (go_at_call 21; refine (zzAllBlank_any _ _ _ (zs.drop (k + m2)) _ (SA2.out.drewN _)).mono ?_; rw [HB2.out]; rintro e w4 ⟨rfl, rfl⟩))
          go_roundw
          case rel => exact ⟨k + 1, _, by omega, by go_num, rfl⟩
          case measure => simp [intOf]; omega
        · cases B2
          · have hkL := HNX.out rfl
            go_wp2_with (first | (go_at_call 19; refine (same_any _ _ _ _ _ _ ((zs.take (k + m2)).drop (k)) rs2 _ SA1.out (S1.out.drewN q2)).mono ?_; rw [HB1.out]; rintro e w3 ⟨rfl, q3, rfl⟩) | (go_at_call 20; refine (zzBlank_any _ _).mono ?_; rintro e w4 ⟨rfl, rfl⟩) | (go_at_call 21; refine (zzAllBlank_any _ _ _ (zs.drop (k + m2)) _ (SA2.out.drewN _)).mono ?_; rw [HB2.out]; rintro e w4 ⟨rfl, rfl⟩))
            go_roundw
            case rel => exact ⟨k + 1, _, by omega, by go_num, rfl⟩
            case measure => simp [intOf]; omega
          · go_wp2_with (first | (go_at_call 19; refine (same_any _ _ _ _ _ _ ((zs.take (k + m2)).drop (k)) rs2 _ SA1.out (S1.out.drewN q2)).mono ?_; rw [HB1.out]; rintro e w3 ⟨rfl, q3, rfl⟩) | (go_at_call 20; refine (zzBlank_any _ _).mono ?_; rintro e w4 ⟨rfl, rfl⟩) | (go_at_call 21; refine (zzAllBlank_any _ _ _ (zs.drop (k + m2)) _ (SA2.out.drewN _)).mono ?_; rw [HB2.out]; rintro e w4 ⟨rfl, rfl⟩))
            go_ret
            exact ⟨rfl, below_drewN HBEL.out _⟩
      · obtain ⟨j, rfl⟩ : ∃ j, k = j + 1 := ⟨k - 1, by omega⟩
        have hbj := HBL.out j (by omega)
        obtain ⟨b, off, ha, hc⟩ := S.out.cell (by omega)
        have hcx := hc j (by omega)
        simp only [Option.some.injEq, Addr.mk.injEq] at ha
        obtain ⟨rfl, rfl, _⟩ := ha
        obtain ⟨y, hy⟩ : ∃ y, y = zs.getD j 0 := ⟨_, rfl⟩
        rw [← hy] at hcx hbj
        rw [Nat.zero_add] at hcx
        clear hk0 hc hy
        have hkn : j + 1 + m2 ≤ n := by omega
        have hkm : (j : Int) + 1 ≤ (n : Int) - (m2 : Int) := by omega
        obtain ⟨A1, sA1, r1⟩ := (S.out.drewN q2).run_lh (j + 1) (j + 1 + m2) ((j : Int) + 1) ((j : Int) + 1 + (m2 : Int)) (by omega) (by omega) m2 (n - (j + 1)) (by omega) hkn (by omega) rfl
        obtain ⟨A2, sA2, r2⟩ := S.out.run_l (j + 1 + m2) ((j : Int) + 1 + (m2 : Int)) (by omega) (n - (j + 1 + m2)) (n - (j + 1 + m2)) hkn rfl rfl
        have SA1 := hide sA1
        have SA2 := hide sA2
        clear sA1 sA2
        obtain ⟨B1, hB1⟩ : ∃ B1, Trim.sameB ((zs.take (j + 1 + m2)).drop (j + 1)) rs2 = B1 := ⟨_, rfl⟩
        have HB1 := hide hB1
        obtain ⟨B2, hB2⟩ : ∃ B2, Trim.allB (zs.drop (j + 1 + m2)) = B2 := ⟨_, rfl⟩
        have HB2 := hide hB2
        clear hB1 hB2
        have hnext : (B1 && B2) = false → j + 1 < L := fun h => by
          rcases Nat.lt_or_ge (j + 1) L with h' | h'
          · exact h'
          · have hKL : j + 1 = L := by omega
            rw [← HB1.out, ← HB2.out, hKL, HS1.out, HS2.out] at h
            cases h
        have HNX := hide hnext
        clear hnext
        cases B1
        · have hkL := HNX.out rfl
          go_wp2_with (first | (go_at_call 19; refine (same_any _ _ _ _ _ _ ((zs.take (j + 1 + m2)).drop (j + 1)) rs2 _ SA1.out (S1.out.drewN q2)).mono ?_; rw [HB1.out]; rintro e w3 ⟨rfl, q3, rfl⟩) | (go_at_call 20; refine (zzBlank_any _ _).mono ?_; rintro e w4 ⟨rfl, rfl⟩) | (go_at_call 21; refine (zzAllBlank_any _ _ _ (zs.drop (j + 1 + m2)) _ (SA2.out.drewN _)).mono ?_; rw [HB2.out]; rintro e w4 ⟨rfl, rfl⟩))
          go_roundw
          case rel => exact ⟨j + 1 + 1, _, by omega, by go_num, rfl⟩
          case measure => simp [intOf]; omega
        · cases B2
          · have hkL := HNX.out rfl
            go_wp2_with (first | (go_at_call 19; refine (same_any _ _ _ _ _ _ ((zs.take (j + 1 + m2)).drop (j + 1)) rs2 _ SA1.out (S1.out.drewN q2)).mono ?_; rw [HB1.out]; rintro e w3 ⟨rfl, q3, rfl⟩) | (go_at_call 20; refine (zzBlank_any _ _).mono ?_; rintro e w4 ⟨rfl, rfl⟩) | (go_at_call 21; refine (zzAllBlank_any _ _ _ (zs.drop (j + 1 + m2)) _ (SA2.out.drewN _)).mono ?_; rw [HB2.out]; rintro e w4 ⟨rfl, rfl⟩))
            go_roundw
            case rel => exact ⟨j + 1 + 1, _, by omega, by go_num, rfl⟩
            case measure => simp [intOf]; omega
          · go_wp2_with (first | (go_at_call 19; refine (same_any _ _ _ _ _ _ ((zs.take (j + 1 + m2)).drop (j + 1)) rs2 _ SA1.out (S1.out.drewN q2)).mono ?_; rw [HB1.out]; rintro e w3 ⟨rfl, q3, rfl⟩) | (go_at_call 20; refine (zzBlank_any _ _).mono ?_; rintro e w4 ⟨rfl, rfl⟩) | (go_at_call 21; refine (zzAllBlank_any _ _ _ (zs.drop (j + 1 + m2)) _ (SA2.out.drewN _)).mono ?_; rw [HB2.out]; rintro e w4 ⟨rfl, rfl⟩))
            go_ret
            exact ⟨rfl, below_drewN HBEL.out _⟩

set_option maxHeartbeats 1600000 in
theorem lawB_nil (w : World) :
    Calls Try.prog 6 #[.slice none 0 0] w fun e w' => e = .returned (.bool true) ∧ Below w.heap.size w w' := by
  have s : Sl w none 0 0 [] := ⟨rfl, Nat.le_refl _, by omega, fun i h => absurd h (by omega), fun h => absurd h (by omega)⟩
  have S := hide s
  clear s
  go_enter Try.func6, Try.ntmps6
  go_wp2_with (go_at_call 17; go_in)
  refine (zztrim_any _ _ _ [] _ S.out).mono ?_
  rintro e w' ⟨⟨a1, m, c1, rs, rfl, s1, t1⟩, rfl⟩
  obtain rfl : rs = [] := t1.eq
  obtain rfl : m = 0 := s1.len.symm
  have S1 := hide s1
  clear s1 t1
  go_wp2_with fail
  refine (zztrim_any _ _ _ [] _ S1.out).mono ?_
  rintro e w' ⟨⟨a2, m2, c2, rs2, rfl, s2, t2⟩, rfl⟩
  obtain rfl : rs2 = [] := t2.eq
  obtain rfl : m2 = 0 := s2.len.symm
  have S2 := hide s2
  clear s2 t2
  go_wp2_with fail
  refine (same_any _ _ _ _ _ _ [] [] _ S2.out S1.out).mono ?_
  have hsame : Trim.sameB [] [] = true := rfl
  have hall : Trim.allB [] = true := rfl
  rw [hsame]
  have HSAME := hide hsame
  have HALL := hide hall
  clear hsame hall
  rintro e w3 ⟨rfl, q, rfl⟩
  go_wp2_with fail
  go_loopw [7] (fun i wr => ∃ q : Nat, i = .int .i64 0 ∧ wr = w'.drewN q) (fun i _ => 0)
  case atStart => exact ⟨q, rfl, rfl⟩
  case round =>
    obtain ⟨q2, rfl, rfl⟩ := hrel
    go_wp2_with (first | (go_at_call 19; refine (same_any _ _ _ _ _ _ [] [] _ (S.out.drewN _) (S1.out.drewN _)).mono ?_; rw [HSAME.out]; rintro e w3 ⟨rfl, q3, rfl⟩) | (go_at_call 21; refine (zzAllBlank_any _ _ _ [] _ (S.out.drewN _)).mono ?_; rw [HALL.out]; rintro e w4 ⟨rfl, rfl⟩))
    go_ret
    exact ⟨rfl, below_drewN (Below.refl _ _) _⟩
end Go.Proofs.Qxb6617070a
