/-
  The walks over ZZtrimSpace and zzSameBytes.
-/
import Derived.Test.Qxb6617070aTrim
namespace Go.Proofs.Qxb6617070a
open Go.RowKit
set_option linter.unusedSimpArgs false
set_option linter.unusedVariables false

theorem zztrim_any (a : Option Addr) (n c : Nat) (zs : List Int) (w : World) (s : Sl w a n c zs) :
    Calls Try.prog 18 #[.slice a n c] w fun e w' => TrimEnd w zs e ∧ w' = w := by
  go_enter Try.func18, Try.ntmps18
  go_wp2_with (go_at_call 26; refine (trim_any _ _ _ zs _ s).mono ?_; rintro e w' ⟨⟨a', m, c', rs, rfl, s', t'⟩, rfl⟩)
  go_ret
  exact ⟨⟨_, _, _, _, rfl, s', t'⟩, rfl⟩

theorem same_len (a a' : Option Addr) (n c n' c' : Nat) (xs ys : List Int) (w : World) (s : Sl w a n c xs) (s' : Sl w a' n' c' ys) (h : ¬ n = n') :
    Calls Try.prog 19 #[.slice a n c, .slice a' n' c'] w fun e w' => e = .returned (.bool (Trim.sameB xs ys)) ∧ ∃ q, w' = w.drewN q := by
  have hne : Trim.sameB xs ys = false := decide_eq_false (fun e => h (by rw [← s.len, ← s'.len, e]))
  rw [hne]
  have hn : (((n : Nat) : Int) != (n' : Int)) = true := by simp; omega
  have f1 := s.few
  have f2 := s'.few
  clear s s' h hne
  go_enter Try.func19, Try.ntmps19
  go_wp2
  go_ret
  exact ⟨rfl, 0, rfl⟩

theorem take_same_succ (xs ys : List Int) (k : Nat) (hx : k < xs.length) (hy : k < ys.length) (h : xs.take k = ys.take k) (e : xs.getD k 0 = ys.getD k 0) : xs.take (k + 1) = ys.take (k + 1) := by
  rw [List.take_succ_eq_append_getElem hx, List.take_succ_eq_append_getElem hy, h]
  simp [List.getD, hx, hy] at e
  rw [e]

set_option maxHeartbeats 800000 in
theorem same_eq (a a' : Option Addr) (n c c' : Nat) (xs ys : List Int) (w : World) (s : Sl w a n c xs) (s' : Sl w a' n c' ys) :
    Calls Try.prog 19 #[.slice a n c, .slice a' n c'] w fun e w' => e = .returned (.bool (Trim.sameB xs ys)) ∧ ∃ q, w' = w.drewN q := by
  have S := hide s
  have S' := hide s'
  have hf := s.few
  clear s s'
  go_enter Try.func19, Try.ntmps19
  go_wp2
  go_loopw [5] (fun i wr => ∃ k q : Nat, k ≤ n ∧ i = .int .i64 k ∧ wr = w.drewN q ∧ Hid (xs.take k = ys.take k)) (fun i _ => n - (intOf i).toNat)
  case atStart => exact ⟨0, 0, Nat.zero_le _, rfl, rfl, rfl⟩
  case round =>
    obtain ⟨k, q, hk, rfl, rfl, HT⟩ := hrel
    by_cases hlt : k < n
    · obtain ⟨b, off, ha, hc⟩ := S.out.cell (by omega)
      obtain ⟨b', off', ha', hc'⟩ := S'.out.cell (by omega)
      have hcx := hc k hlt
      have hcy := hc' k hlt
      obtain ⟨x, hx⟩ : ∃ x, x = xs.getD k 0 := ⟨_, rfl⟩
      obtain ⟨y, hy⟩ : ∃ y, y = ys.getD k 0 := ⟨_, rfl⟩
      rw [← hx] at hcx
      rw [← hy] at hcy
      have HX := hide hx
      have HY := hide hy
      subst ha ha'
      clear hc hc' hx hy
      have k0 : (0 : Int) ≤ (k : Int) := by omega
      have kn : (k : Int) < (n : Int) := by omega
      have hl := S.out.len
      have hl' := S'.out.len
      by_cases hxy : x = y
      · have hb : (x != y) = false := by simp [hxy]
        have HE := hide hxy
        clear hxy
        have HN := hide hl
        have HN' := hide hl'
        clear hl hl'
        go_wp2
        go_quiet (fail)
        go_wp2
        go_roundw
        case rel => exact ⟨k + 1, _, by omega, by go_num, by first | rfl | (rw [World.drewN_drewN]), take_same_succ xs ys k (by rw [HN.out]; omega) (by rw [HN'.out]; omega) HT.out (by rw [← HX.out, ← HY.out]; exact HE.out)⟩
        case measure => simp [intOf]; omega
      · have hb : (x != y) = true := by simp [hxy]
        have hne : Trim.sameB xs ys = false := decide_eq_false (fun e => hxy (by rw [HX.out, HY.out, e]))
        have HNE := hide hne
        clear hne hxy hl hl'
        go_wp2
        go_quiet (fail)
        go_wp2
        go_ret
        exact ⟨by rw [HNE.out]; rfl, _, by first | rfl | (rw [World.drewN_drewN])⟩
    · have hl := S.out.len
      have hl' := S'.out.len
      have hy : Trim.sameB xs ys = true := decide_eq_true (by
        have := HT.out
        rwa [List.take_of_length_le (by omega), List.take_of_length_le (by omega)] at this)
      have HNE := hide hy
      clear hy hl hl'
      go_wp2
      go_ret
      exact ⟨by rw [HNE.out]; rfl, _, rfl⟩

theorem same_any (a a' : Option Addr) (n c n' c' : Nat) (xs ys : List Int) (w : World) (s : Sl w a n c xs) (s' : Sl w a' n' c' ys) :
    Calls Try.prog 19 #[.slice a n c, .slice a' n' c'] w fun e w' => e = .returned (.bool (Trim.sameB xs ys)) ∧ ∃ q, w' = w.drewN q := by
  by_cases h : n = n'
  · subst h; exact same_eq a a' n c c' xs ys w s s'
  · exact same_len a a' n c n' c' xs ys w s s' h
end Go.Proofs.Qxb6617070a
