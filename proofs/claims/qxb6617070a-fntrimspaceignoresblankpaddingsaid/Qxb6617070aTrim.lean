/-
  The walks over zzBlank, zzAllBlank, trimSpace, ZZtrimSpace, zzSameBytes.
-/
import Derived.Test.Qxb6617070aProg
import Derived.Test.Qxb6617070aSl
import Derived.Test.Qxb6617070aTrimMath
import Derived.Deep.QuietTactic
import Derived.BigQuiet
namespace Go.Proofs.Qxb6617070a
open Go.RowKit
set_option linter.unusedSimpArgs false
set_option linter.unusedVariables false

theorem zzBlank_any (x : Int) (w : World) :
    Calls Try.prog 20 #[.int .u8 x] w fun e w' => e = .returned (.bool (Trim.blank x)) ∧ w' = w := by
  by_cases h : x = 32
  · subst h
    have hb : Trim.blank 32 = true := rfl
    rw [hb]
    go_enter Try.func20, Try.ntmps20
    go_wp2
    go_ret
    exact ⟨rfl, rfl⟩
  · have h1 : (x == 32) = false := by simpa using h
    by_cases h9 : x = 9
    · subst h9
      have hb : Trim.blank 9 = true := rfl
      rw [hb]
      clear h h1
      go_enter Try.func20, Try.ntmps20
      go_wp2
      go_ret
      exact ⟨rfl, rfl⟩
    · have h2 : (x == 9) = false := by simpa using h9
      rw [Trim.blank_no (by omega)]
      clear h h9
      go_enter Try.func20, Try.ntmps20
      go_wp2
      go_ret
      exact ⟨rfl, rfl⟩

theorem zzAllBlank_any (a : Option Addr) (n c : Nat) (zs : List Int) (w : World) (s : Sl w a n c zs) :
    Calls Try.prog 21 #[.slice a n c] w fun e w' => e = .returned (.bool (Trim.allB zs)) ∧ w' = w := by
  have HS : Hid (Sl w a n c zs) := s
  have hf := s.few
  clear s
  go_enter Try.func21, Try.ntmps21
  go_wp2
  go_loop [3] (fun i => ∃ k : Nat, k ≤ n ∧ i = .int .i64 k ∧ Trim.allB (zs.take k) = true) (fun i => n - (intOf i).toNat)
  case atStart => exact ⟨0, Nat.zero_le _, rfl, rfl⟩
  case round =>
    obtain ⟨k, hk, rfl, hall⟩ := hrel
    have HA : Hid (Trim.allB (zs.take k) = true) := hall
    clear hall
    by_cases hlt : k < n
    · obtain ⟨b, off, ha, hc⟩ := HS.out.cell (by omega)
      have hcx := hc k hlt
      obtain ⟨x, hx⟩ : ∃ x, x = zs.getD k 0 := ⟨_, rfl⟩
      rw [← hx] at hcx
      have HX : Hid (x = zs.getD k 0) := hx
      subst ha
      clear hc hx
      by_cases hb : Trim.blank x = true
      · go_wp2_with (go_at_call 20; refine (zzBlank_any x _).mono ?_; rintro e w' ⟨rfl, rfl⟩)
        have hl := HS.out.len
        go_round
        case rel => exact ⟨k + 1, by omega, by go_num, Trim.allB_take_succ zs k (by omega) HA.out (by rw [← HX.out]; exact hb)⟩
        case measure => simp [intOf]; omega
      · have hb' : Trim.blank x = false := by simpa using hb
        clear hb
        go_wp2_with (go_at_call 20; refine (zzBlank_any x _).mono ?_; rintro e w' ⟨rfl, rfl⟩)
        go_ret
        have hl := HS.out.len
        exact ⟨by rw [Trim.allB_no zs k (by omega) (by rw [← HX.out]; exact hb')]; rfl, rfl⟩
    · go_wp2
      go_ret
      have hl := HS.out.len
      have ht : zs.take k = zs := List.take_of_length_le (by omega)
      have ha := HA.out
      rw [ht] at ha
      exact ⟨by rw [ha]; rfl, rfl⟩

theorem hide {p : Prop} (h : p) : Hid p := h
/-- What trimSpace ends in: a slice that reads as the text without the blanks around it. -/
def TrimEnd (w : World) (zs : List Int) (e : Ending) : Prop := ∃ a' m c' rs, e = .returned (.slice a' m c') ∧ Sl w a' m c' rs ∧ Trim.IsTrim zs rs
def lenOf : Value → Nat | .slice _ n _ => n | _ => 0

/-- One byte off the left: what the round of the first loop leaves. -/
theorem left_step {w : World} {b off m c1 k n : Nat} {zs : List Int} (S1 : Sl w (some ⟨b, off, none⟩) m c1 (zs.drop k)) (hl : zs.length = n) (hm : 0 < m) (hkm : k + m = n) (x : Int) (hx : x = (zs.drop k).getD 0 0)
    (hb : Trim.blank x = true) (A1 : Trim.allB (zs.take k) = true) :
    k + 1 + (m - 1) = n ∧ Hid (Sl w (if c1 = 1 then some ⟨b, off, none⟩ else some ⟨b, off + 1, none⟩) (m - 1) (c1 - 1) (zs.drop (k + 1))) ∧ Hid (Trim.allB (zs.take (k + 1)) = true) := by
  have hsl := S1.cut 1 m (by omega) (Nat.le_refl _) (a' := if c1 = 1 then some ⟨b, off, none⟩ else some ⟨b, off + 1, none⟩) (fun b' off' e hc => by
    rw [if_neg hc]; simp only [Option.some.injEq, Addr.mk.injEq] at e; obtain ⟨rfl, rfl, _⟩ := e; rfl)
  have e : ((zs.drop k).take m).drop 1 = zs.drop (k + 1) := by
    rw [List.take_of_length_le (by rw [List.length_drop]; omega), List.drop_drop]
  rw [e] at hsl
  refine ⟨by omega, hsl, Trim.allB_take_succ zs k (by omega) A1 ?_⟩
  rw [hx] at hb
  simpa [List.getD, List.getElem?_drop] using hb

/-- One byte off the right: what the round of the second loop leaves. -/
theorem right_step {w : World} {b off j c1 : Nat} {ys : List Int} (S1 : Sl w (some ⟨b, off, none⟩) (j + 1) c1 (ys.take (j + 1))) {a' : Option Addr} (ha : a' = some ⟨b, off, none⟩) (hl : j + 1 ≤ ys.length) (x : Int) (hx : x = (ys.take (j + 1)).getD j 0)
    (hb : Trim.blank x = true) (A1 : Trim.allB (ys.drop (j + 1)) = true) :
    Hid (Sl w a' j c1 (ys.take j)) ∧ Hid (Trim.allB (ys.drop j) = true) := by
  have hsl := S1.cut 0 j (by omega) (by omega) (a' := a') (fun b' off' e hc => by
    rw [ha]; exact e)
  have e : ((ys.take (j + 1)).take j).drop 0 = ys.take j := by
    rw [List.drop_zero, List.take_take]; congr 1; omega
  rw [e] at hsl
  refine ⟨hsl, Trim.allB_drop ys j (by omega) A1 ?_⟩
  rw [hx] at hb
  simpa [List.getD, List.getElem?_take] using hb

set_option maxHeartbeats 1600000 in
theorem trim_any (a : Option Addr) (n c : Nat) (zs : List Int) (w : World) (s : Sl w a n c zs) :
    Calls Try.prog 26 #[.slice a n c] w fun e w' => TrimEnd w zs e ∧ w' = w := by
  have HS : Hid (Sl w a n c zs) := s
  clear s
  go_enter Try.func26, Try.ntmps26
  go_wp2
  go_loop [0] (fun v => ∃ (k m : Nat) (a' : Option Addr) (c' : Nat), k + m = n ∧ v = .slice a' m c' ∧ Hid (Sl w a' m c' (zs.drop k)) ∧ Hid (Trim.allB (zs.take k) = true)) (fun v => lenOf v)
  case atStart => exact ⟨0, n, a, c, by omega, rfl, HS, rfl⟩
  case round =>
    obtain ⟨k, m, a1, c1, hkm, rfl, S1, A1⟩ := hrel
    have HK : Hid (k + m = n) := hkm
    have hf := HS.out.few
    have hmf : m ≤ 1000000 := by omega
    clear hkm hf
    have fin : ∀ (e0 : 0 < m → Trim.blank ((zs.drop k).getD 0 0) = false) (j : Nat) (hj : j ≤ m) (a2 : Option Addr) (c2 : Nat), Sl w a2 j c2 ((zs.drop k).take j) → Trim.allB ((zs.drop k).drop j) = true → (0 < j → Trim.blank (((zs.drop k).take j).getD (j - 1) 0) = false) →
        TrimEnd w zs (.returned (.slice a2 j c2)) := by
      intro e0 j hj a2 c2 S2 A2 h2
      refine ⟨_, _, _, _, rfl, S2, Trim.isTrim_of zs k j A1.out (by rw [← List.drop_drop]; exact A2) ?_⟩
      intro hp
      have hlen := S2.len
      rw [hlen] at hp ⊢
      refine ⟨?_, h2 hp⟩
      have := e0 (by omega)
      simpa [List.getD, List.getElem?_take, hp] using this
    have FIN := hide fin
    clear fin
    by_cases hm : m = 0
    · subst hm
      have E0 : Hid (0 < 0 → Trim.blank ((zs.drop k).getD 0 0) = false) := fun h => absurd h (by omega)
      go_wp2
      go_loop [0] (fun v => ∃ (j : Nat) (a2 : Option Addr) (c2 : Nat), j ≤ 0 ∧ v = .slice a2 j c2 ∧ Hid (Sl w a2 j c2 ((zs.drop k).take j)) ∧ Hid (Trim.allB ((zs.drop k).drop j) = true)) (fun v => lenOf v)
      case atStart =>
        have hl := S1.out.len
        exact ⟨0, _, _, Nat.le_refl _, rfl, by rw [List.take_of_length_le (by omega)]; exact S1, by rw [List.drop_eq_nil_of_le (by omega)]; rfl⟩
      case round =>
        obtain ⟨j, a2, c2, hj, rfl, S2, A2⟩ := hrel
        by_cases hj0 : j = 0
        · subst hj0
          go_wp2
          go_ret
          exact ⟨FIN.out E0.out 0 hj _ _ S2.out A2.out (fun h => absurd h (by omega)), rfl⟩
        · obtain ⟨i, rfl⟩ : ∃ i, j = i + 1 := ⟨j - 1, by omega⟩
          obtain ⟨b2, off2, ha2, hc2⟩ := S2.out.cell (by omega)
          have hcy := hc2 i (by omega)
          obtain ⟨y, hy⟩ : ∃ y, y = ((zs.drop k).take (i + 1)).getD i 0 := ⟨_, rfl⟩
          rw [← hy] at hcy
          have HY : Hid (y = ((zs.drop k).take (i + 1)).getD i 0) := hy
          subst ha2
          have hle := S2.out.le
          clear hc2 hy hj0
          by_cases hby : Trim.blank y = true
          · have hl := S1.out.len
            have R := fun (a' : Option Addr) ha => right_step (a' := a') S2.out ha (by omega) y HY.out hby A2.out
            have HR := hide R
            clear R hl
            rcases Trim.of_blank hby with e | e
            · subst e
              go_wp2
              exact ⟨⟨i, _, _, by omega, rfl, (HR.out _ (by first | rfl | simp)).1, (HR.out _ (by first | rfl | simp)).2⟩, by simp [lenOf]⟩
            · subst e
              go_wp2
              exact ⟨⟨i, _, _, by omega, rfl, (HR.out _ (by first | rfl | simp)).1, (HR.out _ (by first | rfl | simp)).2⟩, by simp [lenOf]⟩
          · have hby' : Trim.blank y = false := by simpa using hby
            have y32 : (y == 32) = false := by have := Trim.of_not_blank hby'; simp; omega
            have y9 : (y == 9) = false := by have := Trim.of_not_blank hby'; simp; omega
            have HBY := hide hby'
            clear hby hby'
            go_wp2
            go_ret
            exact ⟨FIN.out E0.out (i + 1) hj _ _ S2.out A2.out (fun _ => by rw [Nat.add_sub_cancel, ← HY.out]; exact HBY.out), rfl⟩
    · obtain ⟨b, off, ha, hc⟩ := S1.out.cell (by omega)
      have hcx := hc 0 (by omega)
      obtain ⟨x, hx⟩ : ∃ x, x = (zs.drop k).getD 0 0 := ⟨_, rfl⟩
      rw [← hx] at hcx
      have HX : Hid (x = (zs.drop k).getD 0 0) := hx
      subst ha
      clear hc hx
      have hm0 : (0 : Int) < (m : Int) := by omega
      simp only [Nat.add_zero] at hcx
      by_cases hb : Trim.blank x = true
      · have R := left_step S1.out HS.out.len (by omega) HK.out x HX.out hb A1.out
        have HR := hide R
        clear R
        rcases Trim.of_blank hb with e | e
        · subst e
          go_wp2
          exact ⟨⟨k + 1, m - 1, _, _, HR.out.1, rfl, HR.out.2.1, HR.out.2.2⟩, by simp [lenOf]; omega⟩
        · subst e
          go_wp2
          exact ⟨⟨k + 1, m - 1, _, _, HR.out.1, rfl, HR.out.2.1, HR.out.2.2⟩, by simp [lenOf]; omega⟩
      · have hb' : Trim.blank x = false := by simpa using hb
        have h32 : (x == 32) = false := by have := Trim.of_not_blank hb'; simp; omega
        have h9 : (x == 9) = false := by have := Trim.of_not_blank hb'; simp; omega
        have E0 : Hid (0 < m → Trim.blank ((zs.drop k).getD 0 0) = false) := fun _ => by rw [← HX.out]; exact hb'
        clear hb hb'
        go_wp2
        go_loop [0] (fun v => ∃ (j : Nat) (a2 : Option Addr) (c2 : Nat), j ≤ m ∧ v = .slice a2 j c2 ∧ Hid (Sl w a2 j c2 ((zs.drop k).take j)) ∧ Hid (Trim.allB ((zs.drop k).drop j) = true)) (fun v => lenOf v)
        case atStart =>
          have hl := S1.out.len
          exact ⟨m, _, _, Nat.le_refl _, rfl, by rw [List.take_of_length_le (by omega)]; exact S1, by rw [List.drop_eq_nil_of_le (by omega)]; rfl⟩
        case round =>
          obtain ⟨j, a2, c2, hj, rfl, S2, A2⟩ := hrel
          by_cases hj0 : j = 0
          · subst hj0
            go_wp2
            go_ret
            exact ⟨FIN.out E0.out 0 hj _ _ S2.out A2.out (fun h => absurd h (by omega)), rfl⟩
          · obtain ⟨i, rfl⟩ : ∃ i, j = i + 1 := ⟨j - 1, by omega⟩
            obtain ⟨b2, off2, ha2, hc2⟩ := S2.out.cell (by omega)
            have hcy := hc2 i (by omega)
            obtain ⟨y, hy⟩ : ∃ y, y = ((zs.drop k).take (i + 1)).getD i 0 := ⟨_, rfl⟩
            rw [← hy] at hcy
            have HY : Hid (y = ((zs.drop k).take (i + 1)).getD i 0) := hy
            subst ha2
            have hle := S2.out.le
            clear hc2 hy hj0
            by_cases hby : Trim.blank y = true
            · have hl := S1.out.len
              have R := fun (a' : Option Addr) ha => right_step (a' := a') S2.out ha (by omega) y HY.out hby A2.out
              have HR := hide R
              clear R hl
              rcases Trim.of_blank hby with e | e
              · subst e
                go_wp2
                exact ⟨⟨i, _, _, by omega, rfl, (HR.out _ (by first | rfl | simp)).1, (HR.out _ (by first | rfl | simp)).2⟩, by simp [lenOf]⟩
              · subst e
                go_wp2
                exact ⟨⟨i, _, _, by omega, rfl, (HR.out _ (by first | rfl | simp)).1, (HR.out _ (by first | rfl | simp)).2⟩, by simp [lenOf]⟩
            · have hby' : Trim.blank y = false := by simpa using hby
              have y32 : (y == 32) = false := by have := Trim.of_not_blank hby'; simp; omega
              have y9 : (y == 9) = false := by have := Trim.of_not_blank hby'; simp; omega
              have HBY := hide hby'
              clear hby hby'
              go_wp2
              go_ret
              exact ⟨FIN.out E0.out (i + 1) hj _ _ S2.out A2.out (fun _ => by rw [Nat.add_sub_cancel, ← HY.out]; exact HBY.out), rfl⟩
end Go.Proofs.Qxb6617070a
